import JvmDerived
import JvmDerived.Pilot.@@N@@Statement
import JvmDerived.Pilot.@@N@@Code
set_option linter.unusedVariables false
set_option linter.unusedSimpArgs false
namespace Jvm.Pilot.@@N@@
open Jvm Jvm.ClassFile Sem Op Lib Jvm.Free Jvm.Stand Jvm.LawKit Jvm.RoadKit Jvm.Free.Fl Bundle Jvm.Pilot.@@N@@.Jvm.D
section OwnG
variable {p : Program} {l : Launch} {e : Env} {R : Room} {s : State} {m : MethodId} {args : Array Value} {below : List Frame} {meth : Method} {c : Code} {T : State} {locs : List Loc} {cells slots : Nat} {Z : State} {a0 : Array Value} {h : Heap} {B : ByteArray} {pc pc' : Nat} {L L' : Array Slot} {rest : List Value} {F : Outcome → State → Prop}
def Gt (tb : Tables) (e : Env) (below : List Frame) (F : Outcome → State → Prop) (S : State) : Prop := ∃ s₂ o, Steps tb e below S s₂ ∧ s₂.status = .running ∧ Ended s₂ below o ∧ F o s₂
theorem Gt.go {tb : Tables} {S S' : State} (k : Gt tb e below F S') (q : ∀ t, Steps tb e below S' t → Steps tb e below S t) : Gt tb e below F S := by
  obtain ⟨a, o, h1, h2⟩ := k; exact ⟨a, o, q _ h1, h2⟩
theorem own_join {tb : Tables} {S S' : State} (q : ∀ F', Gt tb e below F' S' → Gt tb e below F' S) (k : Gt tb e below F S') : Gt tb e below F S := q F k
theorem own_cast {tb : Tables} {g g' : JFrame} (q : g = g') (k : Gt tb e below F (T.setTop g')) : Gt tb e below F (T.setTop g) := q ▸ k
theorem own_iadd (X : Stand p l e R s m args below meth c T locs cells slots) (hx : p.tables.exec = Jvm.exec) (hby : c.code = B) {x y v : Int32} (hv : x + y = v) (hd : decode B pc = .ok (.iadd, 1)) (hp : pc + 1 = pc') (k : Gt p.tables e below F (T.setTop (mkF m pc' L (.int v :: rest)))) : Gt p.tables e below F (T.setTop (mkF m pc L (.int y :: .int x :: rest))) := by
  subst hp; exact (by subst hv; exact k.go fun t q => XS.iadd X.here hx rfl (hb hby hd) rfl q)
theorem own_isub (X : Stand p l e R s m args below meth c T locs cells slots) (hx : p.tables.exec = Jvm.exec) (hby : c.code = B) {x y v : Int32} (hv : x - y = v) (hd : decode B pc = .ok (.isub, 1)) (hp : pc + 1 = pc') (k : Gt p.tables e below F (T.setTop (mkF m pc' L (.int v :: rest)))) : Gt p.tables e below F (T.setTop (mkF m pc L (.int y :: .int x :: rest))) := by
  subst hp; exact (by subst hv; exact k.go fun t q => XS.isub X.here hx rfl (hb hby hd) rfl q)
theorem own_imul (X : Stand p l e R s m args below meth c T locs cells slots) (hx : p.tables.exec = Jvm.exec) (hby : c.code = B) {x y v : Int32} (hv : x * y = v) (hd : decode B pc = .ok (.imul, 1)) (hp : pc + 1 = pc') (k : Gt p.tables e below F (T.setTop (mkF m pc' L (.int v :: rest)))) : Gt p.tables e below F (T.setTop (mkF m pc L (.int y :: .int x :: rest))) := by
  subst hp; exact (by subst hv; exact k.go fun t q => XS.imul X.here hx rfl (hb hby hd) rfl q)
theorem own_iand (X : Stand p l e R s m args below meth c T locs cells slots) (hx : p.tables.exec = Jvm.exec) (hby : c.code = B) {x y v : Int32} (hv : x &&& y = v) (hd : decode B pc = .ok (.iand, 1)) (hp : pc + 1 = pc') (k : Gt p.tables e below F (T.setTop (mkF m pc' L (.int v :: rest)))) : Gt p.tables e below F (T.setTop (mkF m pc L (.int y :: .int x :: rest))) := by
  subst hp; exact (by subst hv; exact k.go fun t q => XS.iand X.here hx rfl (hb hby hd) rfl q)
theorem own_ior (X : Stand p l e R s m args below meth c T locs cells slots) (hx : p.tables.exec = Jvm.exec) (hby : c.code = B) {x y v : Int32} (hv : x ||| y = v) (hd : decode B pc = .ok (.ior, 1)) (hp : pc + 1 = pc') (k : Gt p.tables e below F (T.setTop (mkF m pc' L (.int v :: rest)))) : Gt p.tables e below F (T.setTop (mkF m pc L (.int y :: .int x :: rest))) := by
  subst hp; exact (by subst hv; exact k.go fun t q => XS.ior X.here hx rfl (hb hby hd) rfl q)
theorem own_ixor (X : Stand p l e R s m args below meth c T locs cells slots) (hx : p.tables.exec = Jvm.exec) (hby : c.code = B) {x y v : Int32} (hv : x ^^^ y = v) (hd : decode B pc = .ok (.ixor, 1)) (hp : pc + 1 = pc') (k : Gt p.tables e below F (T.setTop (mkF m pc' L (.int v :: rest)))) : Gt p.tables e below F (T.setTop (mkF m pc L (.int y :: .int x :: rest))) := by
  subst hp; exact (by subst hv; exact k.go fun t q => XS.ixor X.here hx rfl (hb hby hd) rfl q)
theorem own_ishl (X : Stand p l e R s m args below meth c T locs cells slots) (hx : p.tables.exec = Jvm.exec) (hby : c.code = B) {x y v : Int32} (hv : x <<< (y &&& 31) = v) (hd : decode B pc = .ok (.ishl, 1)) (hp : pc + 1 = pc') (k : Gt p.tables e below F (T.setTop (mkF m pc' L (.int v :: rest)))) : Gt p.tables e below F (T.setTop (mkF m pc L (.int y :: .int x :: rest))) := by
  subst hp; exact (by subst hv; exact k.go fun t q => XS.ishl X.here hx rfl (hb hby hd) rfl q)
theorem own_ishr (X : Stand p l e R s m args below meth c T locs cells slots) (hx : p.tables.exec = Jvm.exec) (hby : c.code = B) {x y v : Int32} (hv : x >>> (y &&& 31) = v) (hd : decode B pc = .ok (.ishr, 1)) (hp : pc + 1 = pc') (k : Gt p.tables e below F (T.setTop (mkF m pc' L (.int v :: rest)))) : Gt p.tables e below F (T.setTop (mkF m pc L (.int y :: .int x :: rest))) := by
  subst hp; exact (by subst hv; exact k.go fun t q => XS.ishr X.here hx rfl (hb hby hd) rfl q)
theorem own_iushr (X : Stand p l e R s m args below meth c T locs cells slots) (hx : p.tables.exec = Jvm.exec) (hby : c.code = B) {x y v : Int32} (hv : (x.toUInt32 >>> (y &&& 31).toUInt32).toInt32 = v) (hd : decode B pc = .ok (.iushr, 1)) (hp : pc + 1 = pc') (k : Gt p.tables e below F (T.setTop (mkF m pc' L (.int v :: rest)))) : Gt p.tables e below F (T.setTop (mkF m pc L (.int y :: .int x :: rest))) := by
  subst hp; exact (by subst hv; exact k.go fun t q => XS.iushr X.here hx rfl (hb hby hd) rfl q)
theorem own_ladd (X : Stand p l e R s m args below meth c T locs cells slots) (hx : p.tables.exec = Jvm.exec) (hby : c.code = B) {x y v : Int64} (hv : x + y = v) (hd : decode B pc = .ok (.ladd, 1)) (hp : pc + 1 = pc') (k : Gt p.tables e below F (T.setTop (mkF m pc' L (.long v :: rest)))) : Gt p.tables e below F (T.setTop (mkF m pc L (.long y :: .long x :: rest))) := by
  subst hp; exact (by subst hv; exact k.go fun t q => XS.ladd X.here hx rfl (hb hby hd) rfl q)
theorem own_lsub (X : Stand p l e R s m args below meth c T locs cells slots) (hx : p.tables.exec = Jvm.exec) (hby : c.code = B) {x y v : Int64} (hv : x - y = v) (hd : decode B pc = .ok (.lsub, 1)) (hp : pc + 1 = pc') (k : Gt p.tables e below F (T.setTop (mkF m pc' L (.long v :: rest)))) : Gt p.tables e below F (T.setTop (mkF m pc L (.long y :: .long x :: rest))) := by
  subst hp; exact (by subst hv; exact k.go fun t q => XS.lsub X.here hx rfl (hb hby hd) rfl q)
theorem own_lmul (X : Stand p l e R s m args below meth c T locs cells slots) (hx : p.tables.exec = Jvm.exec) (hby : c.code = B) {x y v : Int64} (hv : x * y = v) (hd : decode B pc = .ok (.lmul, 1)) (hp : pc + 1 = pc') (k : Gt p.tables e below F (T.setTop (mkF m pc' L (.long v :: rest)))) : Gt p.tables e below F (T.setTop (mkF m pc L (.long y :: .long x :: rest))) := by
  subst hp; exact (by subst hv; exact k.go fun t q => XS.lmul X.here hx rfl (hb hby hd) rfl q)
theorem own_land (X : Stand p l e R s m args below meth c T locs cells slots) (hx : p.tables.exec = Jvm.exec) (hby : c.code = B) {x y v : Int64} (hv : x &&& y = v) (hd : decode B pc = .ok (.land, 1)) (hp : pc + 1 = pc') (k : Gt p.tables e below F (T.setTop (mkF m pc' L (.long v :: rest)))) : Gt p.tables e below F (T.setTop (mkF m pc L (.long y :: .long x :: rest))) := by
  subst hp; exact (by subst hv; exact k.go fun t q => XS.land X.here hx rfl (hb hby hd) rfl q)
theorem own_lor (X : Stand p l e R s m args below meth c T locs cells slots) (hx : p.tables.exec = Jvm.exec) (hby : c.code = B) {x y v : Int64} (hv : x ||| y = v) (hd : decode B pc = .ok (.lor, 1)) (hp : pc + 1 = pc') (k : Gt p.tables e below F (T.setTop (mkF m pc' L (.long v :: rest)))) : Gt p.tables e below F (T.setTop (mkF m pc L (.long y :: .long x :: rest))) := by
  subst hp; exact (by subst hv; exact k.go fun t q => XS.lor X.here hx rfl (hb hby hd) rfl q)
theorem own_lxor (X : Stand p l e R s m args below meth c T locs cells slots) (hx : p.tables.exec = Jvm.exec) (hby : c.code = B) {x y v : Int64} (hv : x ^^^ y = v) (hd : decode B pc = .ok (.lxor, 1)) (hp : pc + 1 = pc') (k : Gt p.tables e below F (T.setTop (mkF m pc' L (.long v :: rest)))) : Gt p.tables e below F (T.setTop (mkF m pc L (.long y :: .long x :: rest))) := by
  subst hp; exact (by subst hv; exact k.go fun t q => XS.lxor X.here hx rfl (hb hby hd) rfl q)
theorem own_lshl (X : Stand p l e R s m args below meth c T locs cells slots) (hx : p.tables.exec = Jvm.exec) (hby : c.code = B) {x v : Int64} {y : Int32} (hv : x <<< (y &&& 0x3f).toInt64 = v) (hd : decode B pc = .ok (.lshl, 1)) (hp : pc + 1 = pc') (k : Gt p.tables e below F (T.setTop (mkF m pc' L (.long v :: rest)))) : Gt p.tables e below F (T.setTop (mkF m pc L (.int y :: .long x :: rest))) := by
  subst hp; exact (by subst hv; exact k.go fun t q => XS.lshl X.here hx rfl (hb hby hd) rfl q)
theorem own_lshr (X : Stand p l e R s m args below meth c T locs cells slots) (hx : p.tables.exec = Jvm.exec) (hby : c.code = B) {x v : Int64} {y : Int32} (hv : x >>> (y &&& 0x3f).toInt64 = v) (hd : decode B pc = .ok (.lshr, 1)) (hp : pc + 1 = pc') (k : Gt p.tables e below F (T.setTop (mkF m pc' L (.long v :: rest)))) : Gt p.tables e below F (T.setTop (mkF m pc L (.int y :: .long x :: rest))) := by
  subst hp; exact (by subst hv; exact k.go fun t q => XS.lshr X.here hx rfl (hb hby hd) rfl q)
theorem own_lushr (X : Stand p l e R s m args below meth c T locs cells slots) (hx : p.tables.exec = Jvm.exec) (hby : c.code = B) {x v : Int64} {y : Int32} (hv : (x.toUInt64 >>> (y &&& 0x3f).toInt64.toUInt64).toInt64 = v) (hd : decode B pc = .ok (.lushr, 1)) (hp : pc + 1 = pc') (k : Gt p.tables e below F (T.setTop (mkF m pc' L (.long v :: rest)))) : Gt p.tables e below F (T.setTop (mkF m pc L (.int y :: .long x :: rest))) := by
  subst hp; exact (by subst hv; exact k.go fun t q => XS.lushr X.here hx rfl (hb hby hd) rfl q)
theorem own_idiv (X : Stand p l e R s m args below meth c T locs cells slots) (hx : p.tables.exec = Jvm.exec) (hby : c.code = B) {x y v : Int32} (hy : y ≠ 0) (hv : x / y = v) (hd : decode B pc = .ok (.idiv, 1)) (hp : pc + 1 = pc') (k : Gt p.tables e below F (T.setTop (mkF m pc' L (.int v :: rest)))) : Gt p.tables e below F (T.setTop (mkF m pc L (.int y :: .int x :: rest))) := by
  subst hp; exact (by subst hv; exact k.go fun t q => XS.idiv X.here hx rfl (hb hby hd) rfl hy q)
theorem own_irem (X : Stand p l e R s m args below meth c T locs cells slots) (hx : p.tables.exec = Jvm.exec) (hby : c.code = B) {x y v : Int32} (hy : y ≠ 0) (hv : x % y = v) (hd : decode B pc = .ok (.irem, 1)) (hp : pc + 1 = pc') (k : Gt p.tables e below F (T.setTop (mkF m pc' L (.int v :: rest)))) : Gt p.tables e below F (T.setTop (mkF m pc L (.int y :: .int x :: rest))) := by
  subst hp; exact (by subst hv; exact k.go fun t q => iremM X hx rfl (hb hby hd) rfl hy q)
theorem own_ldiv (X : Stand p l e R s m args below meth c T locs cells slots) (hx : p.tables.exec = Jvm.exec) (hby : c.code = B) {x y v : Int64} (hy : y ≠ 0) (hv : x / y = v) (hd : decode B pc = .ok (.ldiv, 1)) (hp : pc + 1 = pc') (k : Gt p.tables e below F (T.setTop (mkF m pc' L (.long v :: rest)))) : Gt p.tables e below F (T.setTop (mkF m pc L (.long y :: .long x :: rest))) := by
  subst hp; exact (by subst hv; exact k.go fun t q => XS.ldiv X.here hx rfl (hb hby hd) rfl hy q)
theorem own_lrem (X : Stand p l e R s m args below meth c T locs cells slots) (hx : p.tables.exec = Jvm.exec) (hby : c.code = B) {x y v : Int64} (hy : y ≠ 0) (hv : x % y = v) (hd : decode B pc = .ok (.lrem, 1)) (hp : pc + 1 = pc') (k : Gt p.tables e below F (T.setTop (mkF m pc' L (.long v :: rest)))) : Gt p.tables e below F (T.setTop (mkF m pc L (.long y :: .long x :: rest))) := by
  subst hp; exact (by subst hv; rw [← lrem_mod] at k; exact k.go fun t q => XS.lrem X.here hx rfl (hb hby hd) rfl hy q)
theorem own_lcmp (X : Stand p l e R s m args below meth c T locs cells slots) (hx : p.tables.exec = Jvm.exec) (hby : c.code = B) {x y : Int64} {v : Int32} (hv : (if x > y then 1 else if x = y then 0 else -1 : Int32) = v) (hd : decode B pc = .ok (.lcmp, 1)) (hp : pc + 1 = pc') (k : Gt p.tables e below F (T.setTop (mkF m pc' L (.int v :: rest)))) : Gt p.tables e below F (T.setTop (mkF m pc L (.long y :: .long x :: rest))) := by
  subst hp; exact (by subst hv; exact k.go fun t q => XS.lcmp X.here hx rfl (hb hby hd) rfl q)
theorem own_ineg (X : Stand p l e R s m args below meth c T locs cells slots) (hx : p.tables.exec = Jvm.exec) (hby : c.code = B) {x v : Int32} (hv : -x = v) (hd : decode B pc = .ok (.ineg, 1)) (hp : pc + 1 = pc') (k : Gt p.tables e below F (T.setTop (mkF m pc' L (.int v :: rest)))) : Gt p.tables e below F (T.setTop (mkF m pc L (.int x :: rest))) := by
  subst hp; exact (by subst hv; exact k.go fun t q => XS.ineg X.here hx rfl (hb hby hd) rfl q)
theorem own_lneg (X : Stand p l e R s m args below meth c T locs cells slots) (hx : p.tables.exec = Jvm.exec) (hby : c.code = B) {x v : Int64} (hv : -x = v) (hd : decode B pc = .ok (.lneg, 1)) (hp : pc + 1 = pc') (k : Gt p.tables e below F (T.setTop (mkF m pc' L (.long v :: rest)))) : Gt p.tables e below F (T.setTop (mkF m pc L (.long x :: rest))) := by
  subst hp; exact (by subst hv; exact k.go fun t q => XS.lneg X.here hx rfl (hb hby hd) rfl q)
theorem own_i2b (X : Stand p l e R s m args below meth c T locs cells slots) (hx : p.tables.exec = Jvm.exec) (hby : c.code = B) {x v : Int32} (hv : x.toInt8.toInt32 = v) (hd : decode B pc = .ok (.i2b, 1)) (hp : pc + 1 = pc') (k : Gt p.tables e below F (T.setTop (mkF m pc' L (.int v :: rest)))) : Gt p.tables e below F (T.setTop (mkF m pc L (.int x :: rest))) := by
  subst hp; exact (by subst hv; exact k.go fun t q => XS.i2b X.here hx rfl (hb hby hd) rfl q)
theorem own_i2c (X : Stand p l e R s m args below meth c T locs cells slots) (hx : p.tables.exec = Jvm.exec) (hby : c.code = B) {x v : Int32} (hv : x.toUInt32.toUInt16.toUInt32.toInt32 = v) (hd : decode B pc = .ok (.i2c, 1)) (hp : pc + 1 = pc') (k : Gt p.tables e below F (T.setTop (mkF m pc' L (.int v :: rest)))) : Gt p.tables e below F (T.setTop (mkF m pc L (.int x :: rest))) := by
  subst hp; exact (by subst hv; exact k.go fun t q => XS.i2c X.here hx rfl (hb hby hd) rfl q)
theorem own_i2s (X : Stand p l e R s m args below meth c T locs cells slots) (hx : p.tables.exec = Jvm.exec) (hby : c.code = B) {x v : Int32} (hv : x.toInt16.toInt32 = v) (hd : decode B pc = .ok (.i2s, 1)) (hp : pc + 1 = pc') (k : Gt p.tables e below F (T.setTop (mkF m pc' L (.int v :: rest)))) : Gt p.tables e below F (T.setTop (mkF m pc L (.int x :: rest))) := by
  subst hp; exact (by subst hv; exact k.go fun t q => XS.i2s X.here hx rfl (hb hby hd) rfl q)
theorem own_i2l (X : Stand p l e R s m args below meth c T locs cells slots) (hx : p.tables.exec = Jvm.exec) (hby : c.code = B) {x : Int32} {v : Int64} (hv : x.toInt64 = v) (hd : decode B pc = .ok (.i2l, 1)) (hp : pc + 1 = pc') (k : Gt p.tables e below F (T.setTop (mkF m pc' L (.long v :: rest)))) : Gt p.tables e below F (T.setTop (mkF m pc L (.int x :: rest))) := by
  subst hp; exact (by subst hv; exact k.go fun t q => XS.i2l X.here hx rfl (hb hby hd) rfl q)
theorem own_l2i (X : Stand p l e R s m args below meth c T locs cells slots) (hx : p.tables.exec = Jvm.exec) (hby : c.code = B) {x : Int64} {v : Int32} (hv : x.toInt32 = v) (hd : decode B pc = .ok (.l2i, 1)) (hp : pc + 1 = pc') (k : Gt p.tables e below F (T.setTop (mkF m pc' L (.int v :: rest)))) : Gt p.tables e below F (T.setTop (mkF m pc L (.long x :: rest))) := by
  subst hp; exact (by subst hv; exact k.go fun t q => XS.l2i X.here hx rfl (hb hby hd) rfl q)
theorem own_iload (X : Stand p l e R s m args below meth c T locs cells slots) (hx : p.tables.exec = Jvm.exec) (hby : c.code = B) {i : Nat} {v : Int32} (hl : L[i]? = some (.val (.int v))) (hd : decode B pc = .ok (.iload i, 2)) (hp : pc + 2 = pc') (k : Gt p.tables e below F (T.setTop (mkF m pc' L (.int v :: rest)))) : Gt p.tables e below F (T.setTop (mkF m pc L rest)) := by
  subst hp; exact k.go fun t q => XS.iload X.here hx rfl (hb hby hd) hl q
theorem own_iloadN (X : Stand p l e R s m args below meth c T locs cells slots) (hx : p.tables.exec = Jvm.exec) (hby : c.code = B) {i : Fin 4} {v : Int32} (hl : L[i.val]? = some (.val (.int v))) (hd : decode B pc = .ok (.iload_n i, 1)) (hp : pc + 1 = pc') (k : Gt p.tables e below F (T.setTop (mkF m pc' L (.int v :: rest)))) : Gt p.tables e below F (T.setTop (mkF m pc L rest)) := by
  subst hp; exact k.go fun t q => XS.iloadN X.here hx rfl (hb hby hd) hl q
theorem own_lload (X : Stand p l e R s m args below meth c T locs cells slots) (hx : p.tables.exec = Jvm.exec) (hby : c.code = B) {i : Nat} {v : Int64} (hl : L[i]? = some (.val (.long v))) (hd : decode B pc = .ok (.lload i, 2)) (hp : pc + 2 = pc') (k : Gt p.tables e below F (T.setTop (mkF m pc' L (.long v :: rest)))) : Gt p.tables e below F (T.setTop (mkF m pc L rest)) := by
  subst hp; exact k.go fun t q => XS.lload X.here hx rfl (hb hby hd) hl q
theorem own_lloadN (X : Stand p l e R s m args below meth c T locs cells slots) (hx : p.tables.exec = Jvm.exec) (hby : c.code = B) {i : Fin 4} {v : Int64} (hl : L[i.val]? = some (.val (.long v))) (hd : decode B pc = .ok (.lload_n i, 1)) (hp : pc + 1 = pc') (k : Gt p.tables e below F (T.setTop (mkF m pc' L (.long v :: rest)))) : Gt p.tables e below F (T.setTop (mkF m pc L rest)) := by
  subst hp; exact k.go fun t q => XS.lloadN X.here hx rfl (hb hby hd) hl q
theorem own_dload (X : Stand p l e R s m args below meth c T locs cells slots) (hx : p.tables.exec = Jvm.exec) (hby : c.code = B) {i : Nat} {v : UInt64} (hl : L[i]? = some (.val (.double v))) (hd : decode B pc = .ok (.dload i, 2)) (hp : pc + 2 = pc') (k : Gt p.tables e below F (T.setTop (mkF m pc' L (.double v :: rest)))) : Gt p.tables e below F (T.setTop (mkF m pc L rest)) := by
  subst hp; exact k.go fun t q => XS.dload X.here hx rfl (hb hby hd) hl q
theorem own_dloadN (X : Stand p l e R s m args below meth c T locs cells slots) (hx : p.tables.exec = Jvm.exec) (hby : c.code = B) {i : Fin 4} {v : UInt64} (hl : L[i.val]? = some (.val (.double v))) (hd : decode B pc = .ok (.dload_n i, 1)) (hp : pc + 1 = pc') (k : Gt p.tables e below F (T.setTop (mkF m pc' L (.double v :: rest)))) : Gt p.tables e below F (T.setTop (mkF m pc L rest)) := by
  subst hp; exact k.go fun t q => XS.dloadN X.here hx rfl (hb hby hd) hl q
theorem own_aload (X : Stand p l e R s m args below meth c T locs cells slots) (hx : p.tables.exec = Jvm.exec) (hby : c.code = B) {i : Nat} {v : Value} (hl : L[i]? = some (.val v)) (hr : v.isRef = true) (hd : decode B pc = .ok (.aload i, 2)) (hp : pc + 2 = pc') (k : Gt p.tables e below F (T.setTop (mkF m pc' L (v :: rest)))) : Gt p.tables e below F (T.setTop (mkF m pc L rest)) := by
  subst hp; exact k.go fun t q => XS.aload X.here hx rfl (hb hby hd) hl hr q
theorem own_aloadN (X : Stand p l e R s m args below meth c T locs cells slots) (hx : p.tables.exec = Jvm.exec) (hby : c.code = B) {i : Fin 4} {v : Value} (hl : L[i.val]? = some (.val v)) (hr : v.isRef = true) (hd : decode B pc = .ok (.aload_n i, 1)) (hp : pc + 1 = pc') (k : Gt p.tables e below F (T.setTop (mkF m pc' L (v :: rest)))) : Gt p.tables e below F (T.setTop (mkF m pc L rest)) := by
  subst hp; exact k.go fun t q => XS.aloadN X.here hx rfl (hb hby hd) hl hr q
theorem own_istore (X : Stand p l e R s m args below meth c T locs cells slots) (hx : p.tables.exec = Jvm.exec) (hby : c.code = B) {i : Nat} {v : Int32} (hl : storeLocals L i (.int v) = some L') (hd : decode B pc = .ok (.istore i, 2)) (hp : pc + 2 = pc') (k : Gt p.tables e below F (T.setTop (mkF m pc' L' rest))) : Gt p.tables e below F (T.setTop (mkF m pc L (.int v :: rest))) := by
  subst hp; exact k.go fun t q => XS.istore X.here hx rfl (hb hby hd) rfl hl q
theorem own_istoreN (X : Stand p l e R s m args below meth c T locs cells slots) (hx : p.tables.exec = Jvm.exec) (hby : c.code = B) {i : Fin 4} {v : Int32} (hl : storeLocals L i.val (.int v) = some L') (hd : decode B pc = .ok (.istore_n i, 1)) (hp : pc + 1 = pc') (k : Gt p.tables e below F (T.setTop (mkF m pc' L' rest))) : Gt p.tables e below F (T.setTop (mkF m pc L (.int v :: rest))) := by
  subst hp; exact k.go fun t q => XS.istoreN X.here hx rfl (hb hby hd) rfl hl q
theorem own_lstore (X : Stand p l e R s m args below meth c T locs cells slots) (hx : p.tables.exec = Jvm.exec) (hby : c.code = B) {i : Nat} {v : Int64} (hl : storeLocals L i (.long v) = some L') (hd : decode B pc = .ok (.lstore i, 2)) (hp : pc + 2 = pc') (k : Gt p.tables e below F (T.setTop (mkF m pc' L' rest))) : Gt p.tables e below F (T.setTop (mkF m pc L (.long v :: rest))) := by
  subst hp; exact k.go fun t q => XS.lstore X.here hx rfl (hb hby hd) rfl hl q
theorem own_lstoreN (X : Stand p l e R s m args below meth c T locs cells slots) (hx : p.tables.exec = Jvm.exec) (hby : c.code = B) {i : Fin 4} {v : Int64} (hl : storeLocals L i.val (.long v) = some L') (hd : decode B pc = .ok (.lstore_n i, 1)) (hp : pc + 1 = pc') (k : Gt p.tables e below F (T.setTop (mkF m pc' L' rest))) : Gt p.tables e below F (T.setTop (mkF m pc L (.long v :: rest))) := by
  subst hp; exact k.go fun t q => XS.lstoreN X.here hx rfl (hb hby hd) rfl hl q
theorem own_dstore (X : Stand p l e R s m args below meth c T locs cells slots) (hx : p.tables.exec = Jvm.exec) (hby : c.code = B) {i : Nat} {v : UInt64} (hl : storeLocals L i (.double v) = some L') (hd : decode B pc = .ok (.dstore i, 2)) (hp : pc + 2 = pc') (k : Gt p.tables e below F (T.setTop (mkF m pc' L' rest))) : Gt p.tables e below F (T.setTop (mkF m pc L (.double v :: rest))) := by
  subst hp; exact k.go fun t q => XS.dstore X.here hx rfl (hb hby hd) rfl hl q
theorem own_dstoreN (X : Stand p l e R s m args below meth c T locs cells slots) (hx : p.tables.exec = Jvm.exec) (hby : c.code = B) {i : Fin 4} {v : UInt64} (hl : storeLocals L i.val (.double v) = some L') (hd : decode B pc = .ok (.dstore_n i, 1)) (hp : pc + 1 = pc') (k : Gt p.tables e below F (T.setTop (mkF m pc' L' rest))) : Gt p.tables e below F (T.setTop (mkF m pc L (.double v :: rest))) := by
  subst hp; exact k.go fun t q => XS.dstoreN X.here hx rfl (hb hby hd) rfl hl q
theorem own_astore (X : Stand p l e R s m args below meth c T locs cells slots) (hx : p.tables.exec = Jvm.exec) (hby : c.code = B) {i : Nat} {v : Value} (hr : v.isRef = true) (hl : storeLocals L i v = some L') (hd : decode B pc = .ok (.astore i, 2)) (hp : pc + 2 = pc') (k : Gt p.tables e below F (T.setTop (mkF m pc' L' rest))) : Gt p.tables e below F (T.setTop (mkF m pc L (v :: rest))) := by
  subst hp; exact k.go fun t q => XS.astore X.here hx rfl (hb hby hd) rfl hr hl q
theorem own_astoreN (X : Stand p l e R s m args below meth c T locs cells slots) (hx : p.tables.exec = Jvm.exec) (hby : c.code = B) {i : Fin 4} {v : Value} (hr : v.isRef = true) (hl : storeLocals L i.val v = some L') (hd : decode B pc = .ok (.astore_n i, 1)) (hp : pc + 1 = pc') (k : Gt p.tables e below F (T.setTop (mkF m pc' L' rest))) : Gt p.tables e below F (T.setTop (mkF m pc L (v :: rest))) := by
  subst hp; exact k.go fun t q => XS.astoreN X.here hx rfl (hb hby hd) rfl hr hl q
theorem own_iinc (X : Stand p l e R s m args below meth c T locs cells slots) (hx : p.tables.exec = Jvm.exec) (hby : c.code = B) {i : Nat} {cst : Int} {x : Int32} (hl : L[i]? = some (.val (.int x))) (hl' : storeLocals L i (.int (x + Int32.ofInt cst)) = some L') (hd : decode B pc = .ok (.iinc i cst, 3)) (hp : pc + 3 = pc') (k : Gt p.tables e below F (T.setTop (mkF m pc' L' rest))) : Gt p.tables e below F (T.setTop (mkF m pc L rest)) := by
  subst hp; exact k.go fun t q => XS.iinc X.here hx rfl (hb hby hd) hl hl' q
theorem own_iconst (X : Stand p l e R s m args below meth c T locs cells slots) (hx : p.tables.exec = Jvm.exec) (hby : c.code = B) {i : Int} {v : Int32} (hv : Int32.ofInt i = v) (hd : decode B pc = .ok (.iconst i, 1)) (hp : pc + 1 = pc') (k : Gt p.tables e below F (T.setTop (mkF m pc' L (.int v :: rest)))) : Gt p.tables e below F (T.setTop (mkF m pc L rest)) := by
  subst hp; exact (by subst hv; exact k.go fun t q => XS.iconst X.here hx rfl (hb hby hd) q)
theorem own_bipush (X : Stand p l e R s m args below meth c T locs cells slots) (hx : p.tables.exec = Jvm.exec) (hby : c.code = B) {i : Int} {v : Int32} (hv : (Int8.ofInt i).toInt32 = v) (hd : decode B pc = .ok (.bipush i, 2)) (hp : pc + 2 = pc') (k : Gt p.tables e below F (T.setTop (mkF m pc' L (.int v :: rest)))) : Gt p.tables e below F (T.setTop (mkF m pc L rest)) := by
  subst hp; exact (by subst hv; exact k.go fun t q => XS.bipush X.here hx rfl (hb hby hd) q)
theorem own_sipush (X : Stand p l e R s m args below meth c T locs cells slots) (hx : p.tables.exec = Jvm.exec) (hby : c.code = B) {i : Int} {v : Int32} (hv : (Int16.ofInt i).toInt32 = v) (hd : decode B pc = .ok (.sipush i, 3)) (hp : pc + 3 = pc') (k : Gt p.tables e below F (T.setTop (mkF m pc' L (.int v :: rest)))) : Gt p.tables e below F (T.setTop (mkF m pc L rest)) := by
  subst hp; exact (by subst hv; exact k.go fun t q => XS.sipush X.here hx rfl (hb hby hd) q)
theorem own_lconst (X : Stand p l e R s m args below meth c T locs cells slots) (hx : p.tables.exec = Jvm.exec) (hby : c.code = B) {i : Fin 2} {v : Int64} (hv : Int64.ofNat i = v) (hd : decode B pc = .ok (.lconst i, 1)) (hp : pc + 1 = pc') (k : Gt p.tables e below F (T.setTop (mkF m pc' L (.long v :: rest)))) : Gt p.tables e below F (T.setTop (mkF m pc L rest)) := by
  subst hp; exact (by subst hv; exact k.go fun t q => XS.lconst X.here hx rfl (hb hby hd) q)
theorem own_aconst (X : Stand p l e R s m args below meth c T locs cells slots) (hx : p.tables.exec = Jvm.exec) (hby : c.code = B)  (hd : decode B pc = .ok (.aconst_null, 1)) (hp : pc + 1 = pc') (k : Gt p.tables e below F (T.setTop (mkF m pc' L (.null :: rest)))) : Gt p.tables e below F (T.setTop (mkF m pc L rest)) := by
  subst hp; exact k.go fun t q => XS.aconstNull X.here hx rfl (hb hby hd) q
theorem own_dconst0 (X : Stand p l e R s m args below meth c T locs cells slots) (hx : p.tables.exec = Jvm.exec) (hby : c.code = B) {v : UInt64} (hv : FP.dconst0 = v) (hd : decode B pc = .ok (.dconst 0, 1)) (hp : pc + 1 = pc') (k : Gt p.tables e below F (T.setTop (mkF m pc' L (.double v :: rest)))) : Gt p.tables e below F (T.setTop (mkF m pc L rest)) := by
  subst hp; exact k.go fun t q => XS.dconst0 X.here hx rfl (hb hby hd) hv q
theorem own_dconst1 (X : Stand p l e R s m args below meth c T locs cells slots) (hx : p.tables.exec = Jvm.exec) (hby : c.code = B) {v : UInt64} (hv : FP.dconst1 = v) (hd : decode B pc = .ok (.dconst 1, 1)) (hp : pc + 1 = pc') (k : Gt p.tables e below F (T.setTop (mkF m pc' L (.double v :: rest)))) : Gt p.tables e below F (T.setTop (mkF m pc L rest)) := by
  subst hp; exact k.go fun t q => XS.dconst1 X.here hx rfl (hb hby hd) hv q
theorem own_dadd (X : Stand p l e R s m args below meth c T locs cells slots) (hx : p.tables.exec = Jvm.exec) (hby : c.code = B) {x y v : UInt64} (hn : NoNaN64 (FP.dadd x y)) (hv : FP.dadd x y = v) (hd : decode B pc = .ok (.dadd, 1)) (hp : pc + 1 = pc') (k : Gt p.tables e below F (T.setTop (mkF m pc' L (.double v :: rest)))) : Gt p.tables e below F (T.setTop (mkF m pc L (.double y :: .double x :: rest))) := by
  subst hp; exact k.go fun t q => XS.daddS X.here hx rfl (hb hby hd) rfl hn hv q
theorem own_dsub (X : Stand p l e R s m args below meth c T locs cells slots) (hx : p.tables.exec = Jvm.exec) (hby : c.code = B) {x y v : UInt64} (hn : NoNaN64 (FP.dsub x y)) (hv : FP.dsub x y = v) (hd : decode B pc = .ok (.dsub, 1)) (hp : pc + 1 = pc') (k : Gt p.tables e below F (T.setTop (mkF m pc' L (.double v :: rest)))) : Gt p.tables e below F (T.setTop (mkF m pc L (.double y :: .double x :: rest))) := by
  subst hp; exact k.go fun t q => XS.dsubS X.here hx rfl (hb hby hd) rfl hn hv q
theorem own_dmul (X : Stand p l e R s m args below meth c T locs cells slots) (hx : p.tables.exec = Jvm.exec) (hby : c.code = B) {x y v : UInt64} (hn : NoNaN64 (FP.dmul x y)) (hv : FP.dmul x y = v) (hd : decode B pc = .ok (.dmul, 1)) (hp : pc + 1 = pc') (k : Gt p.tables e below F (T.setTop (mkF m pc' L (.double v :: rest)))) : Gt p.tables e below F (T.setTop (mkF m pc L (.double y :: .double x :: rest))) := by
  subst hp; exact k.go fun t q => XS.dmulS X.here hx rfl (hb hby hd) rfl hn hv q
theorem own_ddiv (X : Stand p l e R s m args below meth c T locs cells slots) (hx : p.tables.exec = Jvm.exec) (hby : c.code = B) {x y v : UInt64} (hn : NoNaN64 (FP.ddiv x y)) (hv : FP.ddiv x y = v) (hd : decode B pc = .ok (.ddiv, 1)) (hp : pc + 1 = pc') (k : Gt p.tables e below F (T.setTop (mkF m pc' L (.double v :: rest)))) : Gt p.tables e below F (T.setTop (mkF m pc L (.double y :: .double x :: rest))) := by
  subst hp; exact k.go fun t q => XS.ddivS X.here hx rfl (hb hby hd) rfl hn hv q
theorem own_dneg (X : Stand p l e R s m args below meth c T locs cells slots) (hx : p.tables.exec = Jvm.exec) (hby : c.code = B) {x v : UInt64} (hv : FP.dneg x = v) (hd : decode B pc = .ok (.dneg, 1)) (hp : pc + 1 = pc') (k : Gt p.tables e below F (T.setTop (mkF m pc' L (.double v :: rest)))) : Gt p.tables e below F (T.setTop (mkF m pc L (.double x :: rest))) := by
  subst hp; exact k.go fun t q => XS.dnegS X.here hx rfl (hb hby hd) rfl hv q
theorem own_dcmp (X : Stand p l e R s m args below meth c T locs cells slots) (hx : p.tables.exec = Jvm.exec) (hby : c.code = B) {o : CmpOp} {x y : UInt64} {v : Int32} (hv : cmpValue (FP.dcmp x y) o = v) (hd : decode B pc = .ok (.dcmp o, 1)) (hp : pc + 1 = pc') (k : Gt p.tables e below F (T.setTop (mkF m pc' L (.int v :: rest)))) : Gt p.tables e below F (T.setTop (mkF m pc L (.double y :: .double x :: rest))) := by
  subst hp; exact k.go fun t q => XS.dcmpS X.here hx rfl (hb hby hd) rfl hv q
theorem own_i2d (X : Stand p l e R s m args below meth c T locs cells slots) (hx : p.tables.exec = Jvm.exec) (hby : c.code = B) {x : Int32} {v : UInt64} (hv : FP.i2d x = v) (hd : decode B pc = .ok (.i2d, 1)) (hp : pc + 1 = pc') (k : Gt p.tables e below F (T.setTop (mkF m pc' L (.double v :: rest)))) : Gt p.tables e below F (T.setTop (mkF m pc L (.int x :: rest))) := by
  subst hp; exact k.go fun t q => XS.i2dS X.here hx rfl (hb hby hd) rfl hv q
theorem own_l2d (X : Stand p l e R s m args below meth c T locs cells slots) (hx : p.tables.exec = Jvm.exec) (hby : c.code = B) {x : Int64} {v : UInt64} (hv : FP.l2d x = v) (hd : decode B pc = .ok (.l2d, 1)) (hp : pc + 1 = pc') (k : Gt p.tables e below F (T.setTop (mkF m pc' L (.double v :: rest)))) : Gt p.tables e below F (T.setTop (mkF m pc L (.long x :: rest))) := by
  subst hp; exact k.go fun t q => XS.l2dS X.here hx rfl (hb hby hd) rfl hv q
theorem own_dup (X : Stand p l e R s m args below meth c T locs cells slots) (hx : p.tables.exec = Jvm.exec) (hby : c.code = B) {x : Value} (hc : x.category = 1) (hd : decode B pc = .ok (.dup, 1)) (hp : pc + 1 = pc') (k : Gt p.tables e below F (T.setTop (mkF m pc' L (x :: x :: rest)))) : Gt p.tables e below F (T.setTop (mkF m pc L (x :: rest))) := by
  subst hp; exact k.go fun t q => XS.dup X.here hx rfl (hb hby hd) rfl hc q
theorem own_pop (X : Stand p l e R s m args below meth c T locs cells slots) (hx : p.tables.exec = Jvm.exec) (hby : c.code = B) {x : Value} (hc : x.category = 1) (hd : decode B pc = .ok (.pop, 1)) (hp : pc + 1 = pc') (k : Gt p.tables e below F (T.setTop (mkF m pc' L rest))) : Gt p.tables e below F (T.setTop (mkF m pc L (x :: rest))) := by
  subst hp; exact k.go fun t q => XS.pop X.here hx rfl (hb hby hd) rfl hc q
theorem own_dupX1 (X : Stand p l e R s m args below meth c T locs cells slots) (hx : p.tables.exec = Jvm.exec) (hby : c.code = B) {x y : Value} (hc : x.category = 1) (hc' : y.category = 1) (hd : decode B pc = .ok (.dup_x1, 1)) (hp : pc + 1 = pc') (k : Gt p.tables e below F (T.setTop (mkF m pc' L (x :: y :: x :: rest)))) : Gt p.tables e below F (T.setTop (mkF m pc L (x :: y :: rest))) := by
  subst hp; exact k.go fun t q => XS.dupX1 X.here hx rfl (hb hby hd) rfl hc hc' q
theorem own_dup2 (X : Stand p l e R s m args below meth c T locs cells slots) (hx : p.tables.exec = Jvm.exec) (hby : c.code = B) {x y : Value} (hc : x.category = 1) (hc' : y.category = 1) (hd : decode B pc = .ok (.dup2, 1)) (hp : pc + 1 = pc') (k : Gt p.tables e below F (T.setTop (mkF m pc' L (x :: y :: x :: y :: rest)))) : Gt p.tables e below F (T.setTop (mkF m pc L (x :: y :: rest))) := by
  subst hp; exact k.go fun t q => Jvm.Free.XT.dup2 X.here hx rfl (hb hby hd) rfl hc hc' q
theorem own_goto (X : Stand p l e R s m args below meth c T locs cells slots) (hx : p.tables.exec = Jvm.exec) (hby : c.code = B) {o : Int} (hd : decode B pc = .ok (.goto o, 3)) (ho : 0 ≤ (pc : Int) + o) (hp : ((pc : Int) + o).toNat = pc') (k : Gt p.tables e below F (T.setTop (mkF m pc' L rest))) : Gt p.tables e below F (T.setTop (mkF m pc L rest)) :=
  k.go fun t q => XS.goto X.here hx rfl rfl (hb hby hd) ho hp q
theorem own_ifT (X : Stand p l e R s m args below meth c T locs cells slots) (hx : p.tables.exec = Jvm.exec) (hby : c.code = B) {cd : ClassFile.Cond} {x : Int32} {o : Int} (hd : decode B pc = .ok (.ifCond cd o, 3)) (hc : ifCond.holds cd x = true) (ho : 0 ≤ (pc : Int) + o) (hp : ((pc : Int) + o).toNat = pc') (k : Gt p.tables e below F (T.setTop (mkF m pc' L rest))) : Gt p.tables e below F (T.setTop (mkF m pc L (.int x :: rest))) :=
  k.go fun t q => XS.ifYes X.here hx rfl rfl (hb hby hd) rfl hc ho hp q
theorem own_ifF (X : Stand p l e R s m args below meth c T locs cells slots) (hx : p.tables.exec = Jvm.exec) (hby : c.code = B) {cd : ClassFile.Cond} {x : Int32} {o : Int} (hd : decode B pc = .ok (.ifCond cd o, 3)) (hc : ifCond.holds cd x = false) (hp : pc + 3 = pc') (k : Gt p.tables e below F (T.setTop (mkF m pc' L rest))) : Gt p.tables e below F (T.setTop (mkF m pc L (.int x :: rest))) := by
  subst hp; exact k.go fun t q => XS.ifNo X.here hx rfl (hb hby hd) rfl hc q
theorem own_icT (X : Stand p l e R s m args below meth c T locs cells slots) (hx : p.tables.exec = Jvm.exec) (hby : c.code = B) {cd : ClassFile.Cond} {x y : Int32} {o : Int} (hd : decode B pc = .ok (.if_icmp cd o, 3)) (hc : if_icmp.holds cd x y = true) (ho : 0 ≤ (pc : Int) + o) (hp : ((pc : Int) + o).toNat = pc') (k : Gt p.tables e below F (T.setTop (mkF m pc' L rest))) : Gt p.tables e below F (T.setTop (mkF m pc L (.int y :: .int x :: rest))) :=
  k.go fun t q => XS.icmpYes X.here hx rfl rfl (hb hby hd) rfl hc ho hp q
theorem own_icF (X : Stand p l e R s m args below meth c T locs cells slots) (hx : p.tables.exec = Jvm.exec) (hby : c.code = B) {cd : ClassFile.Cond} {x y : Int32} {o : Int} (hd : decode B pc = .ok (.if_icmp cd o, 3)) (hc : if_icmp.holds cd x y = false) (hp : pc + 3 = pc') (k : Gt p.tables e below F (T.setTop (mkF m pc' L rest))) : Gt p.tables e below F (T.setTop (mkF m pc L (.int y :: .int x :: rest))) := by
  subst hp; exact k.go fun t q => XS.icmpNo X.here hx rfl (hb hby hd) rfl hc q
theorem own_ifnullT (X : Stand p l e R s m args below meth c T locs cells slots) (hx : p.tables.exec = Jvm.exec) (hby : c.code = B) {o : Int} (hd : decode B pc = .ok (.ifnull o, 3)) (ho : 0 ≤ (pc : Int) + o) (hp : ((pc : Int) + o).toNat = pc') (k : Gt p.tables e below F (T.setTop (mkF m pc' L rest))) : Gt p.tables e below F (T.setTop (mkF m pc L (.null :: rest))) :=
  k.go fun t q => XS.ifnullYes X.here hx rfl rfl (hb hby hd) rfl ho hp q
theorem own_ifnullF (X : Stand p l e R s m args below meth c T locs cells slots) (hx : p.tables.exec = Jvm.exec) (hby : c.code = B) {o : Int} {b : Addr} (hd : decode B pc = .ok (.ifnull o, 3)) (hp : pc + 3 = pc') (k : Gt p.tables e below F (T.setTop (mkF m pc' L rest))) : Gt p.tables e below F (T.setTop (mkF m pc L (.ref b :: rest))) := by
  subst hp; exact k.go fun t q => XS.ifnullNo X.here hx rfl (hb hby hd) rfl q
theorem own_ifnonnullT (X : Stand p l e R s m args below meth c T locs cells slots) (hx : p.tables.exec = Jvm.exec) (hby : c.code = B) {o : Int} {b : Addr} (hd : decode B pc = .ok (.ifnonnull o, 3)) (ho : 0 ≤ (pc : Int) + o) (hp : ((pc : Int) + o).toNat = pc') (k : Gt p.tables e below F (T.setTop (mkF m pc' L rest))) : Gt p.tables e below F (T.setTop (mkF m pc L (.ref b :: rest))) :=
  k.go fun t q => XS.ifnonnullYes X.here hx rfl rfl (hb hby hd) rfl ho hp q
theorem own_ifnonnullF (X : Stand p l e R s m args below meth c T locs cells slots) (hx : p.tables.exec = Jvm.exec) (hby : c.code = B) {o : Int} (hd : decode B pc = .ok (.ifnonnull o, 3)) (hp : pc + 3 = pc') (k : Gt p.tables e below F (T.setTop (mkF m pc' L rest))) : Gt p.tables e below F (T.setTop (mkF m pc L (.null :: rest))) := by
  subst hp; exact k.go fun t q => XS.ifnonnullNo X.here hx rfl (hb hby hd) rfl q
theorem own_acmp (X : Stand p l e R s m args below meth c T locs cells slots) (hx : p.tables.exec = Jvm.exec) (hby : c.code = B) {cd : ACond} {x y : Value} (h1 : x.isRef = true) (h2 : y.isRef = true) {o : Int} {same : Bool} (hd : decode B pc = .ok (.if_acmp cd o, 3)) (hq : decide (x = y) = same) (ho : 0 ≤ (pc : Int) + o) (hp : pc' = if acV cd same = true then ((pc : Int) + o).toNat else pc + 3) (k : Gt p.tables e below F (T.setTop (mkF m pc' L rest))) : Gt p.tables e below F (T.setTop (mkF m pc L (y :: x :: rest))) :=
  k.go fun t q => Jvm.RoadKit.acmp X hx rfl h1 h2 rfl (hb hby hd) rfl hq ho hp q
theorem own_ldcI (X : Stand p l e R s m args below meth c T locs cells slots) (hx : p.tables.exec = Jvm.exec) (hby : c.code = B) (hZ : Z.Warmed39 s.vm) {own : String} {i : Nat} {v : Int32} (hown : s.vm.findClass own = some m.cls) (w : (Jvm.Cond.constant own i v).before a0 Z = true) (hd : decode B pc = .ok (.ldc i, 2)) (hp : pc + 2 = pc') (k : Gt p.tables e below F (T.setTop (mkF m pc' L (.int v :: rest)))) : Gt p.tables e below F (T.setTop (mkF m pc L rest)) := by
  subst hp; exact k.go (X.ldcInt hx hown (mvT hZ w) (g := mkF m pc L rest) rfl (hb hby hd))
theorem own_ldc2L (X : Stand p l e R s m args below meth c T locs cells slots) (hx : p.tables.exec = Jvm.exec) (hby : c.code = B) (hZ : Z.Warmed39 s.vm) {own : String} {i : Nat} {v : Int64} (hown : s.vm.findClass own = some m.cls) (w : (Jvm.Cond.constantLong own i v).before a0 Z = true) (hd : decode B pc = .ok (.ldc2_w i, 3)) (hp : pc + 3 = pc') (k : Gt p.tables e below F (T.setTop (mkF m pc' L (.long v :: rest)))) : Gt p.tables e below F (T.setTop (mkF m pc L rest)) := by
  subst hp; exact k.go (X.ldc2Long hx hown (mvT hZ w) (g := mkF m pc L rest) rfl (hb hby hd))
theorem own_ldc2D (X : Stand p l e R s m args below meth c T locs cells slots) (hx : p.tables.exec = Jvm.exec) (hby : c.code = B) (hZ : Z.Warmed39 s.vm) {own : String} {i : Nat} {v : UInt64} (hown : s.vm.findClass own = some m.cls) (w : (Jvm.Cond.constantDouble own i v).before a0 Z = true) (hd : decode B pc = .ok (.ldc2_w i, 3)) (hp : pc + 3 = pc') (k : Gt p.tables e below F (T.setTop (mkF m pc' L (.double v :: rest)))) : Gt p.tables e below F (T.setTop (mkF m pc L rest)) := by
  subst hp; exact k.go (X.ldc2DoubleC hx hown (mvT hZ w) (g := mkF m pc L rest) rfl (hb hby hd))
theorem own_getF (X : Stand p l e R s m args below meth c T locs cells slots) (hx : p.tables.exec = Jvm.exec) (hby : c.code = B) (hZ : Z.Warmed39 s.vm) {own R0 O n d host : String} {index : Nat} (hown : s.vm.findClass own = some m.cls) (w : (Jvm.Cond.fieldLink own index R0 n d).before a0 Z = true ∨ (Jvm.Cond.fieldLinkNest own index R0 n d host).before a0 Z = true) (via : Via Z R0 O n d) (eT : T.heap = h) {a : Addr} {v : Value} (Ff : Fld Z h a O n d v) (hd : decode B pc = .ok (.getfield index, 3)) (hp : pc + 3 = pc') (k : ∀ T', Stand p l e R s m args below meth c T' locs cells slots → T'.heap = h → Gt p.tables e below F (T'.setTop (mkF m pc' L (v :: rest)))) : Gt p.tables e below F (T.setTop (mkF m pc L (.ref a :: rest))) := by
  subst hp; obtain ⟨T', X', e', st⟩ := getF X hx hZ hown w via eT Ff (g := mkF m pc L (.ref a :: rest)) rfl rfl (hb hby hd); exact (k T' X' e').go st
theorem own_getS (X : Stand p l e R s m args below meth c T locs cells slots) (hx : p.tables.exec = Jvm.exec) (hby : c.code = B) (hZ : Z.Warmed39 s.vm) {own R0 O n d host : String} {index : Nat} (hown : s.vm.findClass own = some m.cls) (w : (Jvm.Cond.fieldLink own index R0 n d).before a0 Z = true ∨ (Jvm.Cond.fieldLinkNest own index R0 n d host).before a0 Z = true) (via : Via Z R0 O n d) (eT : T.heap = h) {v : Value} (Ff : Sta Z h O n d v) (hd : decode B pc = .ok (.getstatic index, 3)) (hp : pc + 3 = pc') (k : ∀ T', Stand p l e R s m args below meth c T' locs cells slots → T'.heap = h → Gt p.tables e below F (T'.setTop (mkF m pc' L (v :: rest)))) : Gt p.tables e below F (T.setTop (mkF m pc L rest)) := by
  subst hp; obtain ⟨T', X', e', st⟩ := getS2 X hx hZ hown w via eT Ff (g := mkF m pc L rest) rfl (hb hby hd); exact (k T' X' e').go st
theorem own_putF (X : Stand p l e R s m args below meth c T locs cells slots) (hx : p.tables.exec = Jvm.exec) (hby : c.code = B) (hZ : Z.Warmed39 s.vm) {own R0 O n d host C : String} {index kk : Nat} {ty : FieldType} (hown : s.vm.findClass own = some m.cls) (w : (Jvm.Cond.fieldLink own index R0 n d).before a0 Z = true ∨ (Jvm.Cond.fieldLinkNest own index R0 n d host).before a0 Z = true) (via : Via Z R0 O n d) (eT : T.heap = h) {a : Addr} {v old : Value} (Ff : Fld Z h a O n d old) (E : Exa Z h a C) (La : (Jvm.Cond.lays C O n d).before a0 Z = true ∨ ((Jvm.Cond.laysFinal C O n d).before a0 Z = true ∧ own = O ∧ meth.name = "<init>")) (wi : (Jvm.Cond.instantiable C kk).before a0 Z = true) (hty : parseFieldDescriptor d = some ty) (hn : narrow ty v = v) (hf : fits ty v = true) (hd : decode B pc = .ok (.putfield index, 3)) (hp : pc + 3 = pc') (k : ∀ T' h', Stand p l e R s m args below meth c T' (locs ++ [⟨a, Jvm.RoadKit.slotOf Z O n d⟩]) cells slots → T'.heap = h' → Wr h h' a (Jvm.RoadKit.slotOf Z O n d) v → Gt p.tables e below F (T'.setTop (mkF m pc' L rest))) : Gt p.tables e below F (T.setTop (mkF m pc L (v :: .ref a :: rest))) := by
  subst hp; obtain ⟨T', h', X', e', W, st⟩ := putF X hx hZ hown w via eT Ff E La wi hty hn hf (g := mkF m pc L (v :: .ref a :: rest)) rfl rfl (hb hby hd); exact (k T' h' X' e' W).go st
theorem own_newO (X : Stand p l e R s m args below meth c T locs cells slots) (hx : p.tables.exec = Jvm.exec) (hby : c.code = B) (hZ : Z.Warmed39 s.vm) {own C : String} {index n : Nat} (hown : s.vm.findClass own = some m.cls) (w : (Jvm.Cond.classLink own index C).before a0 Z = true) (wi : (Jvm.Cond.instantiable C n).before a0 Z = true) (wz : (Jvm.Cond.initialized C).before a0 Z = true) (eT : T.heap = h) (hd : decode B pc = .ok (.new index, 3)) (hp : pc + 3 = pc') (hc : cells + 1 ≤ R.cells) (hl : slots + n ≤ R.slots) (k : ∀ T' h' a, Stand p l e R s m args below meth c T' locs (cells + 1) (slots + n) → T'.heap = h' → Ext h h' → h.size = a → Exa Z h' a C → (∀ {O nm d : String} {ty : FieldType}, Laid Z a0 C O nm d → parseFieldDescriptor d = some ty → Fld Z h' a O nm d (defaultValue ty)) → Gt p.tables e below F (T'.setTop (mkF m pc' L (.ref a :: rest)))) : Gt p.tables e below F (T.setTop (mkF m pc L rest)) := by
  subst hp; obtain ⟨T', h', X', e', E', A', D', -, st⟩ := newO X hx hZ hown w wi wz eT (g := mkF m pc L rest) rfl (hb hby hd) hc hl; exact (k T' h' _ X' e' E' rfl A' D').go st
theorem own_initO (X : Stand p l e R s m args below meth c T locs cells slots) (hx : p.tables.exec = Jvm.exec) (hby : c.code = B) (hZ : Z.Warmed39 s.vm) {own : String} {idx : Nat} (hown : s.vm.findClass own = some m.cls) (w1 : (Jvm.Cond.methodLink own idx Lib.objectInit).before a0 Z = true) (w2 : (Jvm.Cond.instanceMethod Lib.objectInit).before a0 Z = true) (w3 : (Jvm.Cond.code Lib.objectInit ⟨#[0xb1]⟩ 1 none).before a0 Z = true) (eT : T.heap = h) (hsize : L.size = c.maxLocals) {a : Addr} (hd : decode B pc = .ok (.invokespecial idx, 3)) (hp : pc + 3 = pc') (hf : 1 ≤ R.frames) {W : Nat} (hW : (rest.map fun v => v.category).sum ≤ W) (hl : W + 12 ≤ R.locals) (k : ∀ T', Stand p l e R s m args below meth c T' locs cells slots → T'.heap = h → Gt p.tables e below F (T'.setTop (mkF m pc' L rest))) : Gt p.tables e below F (T.setTop (mkF m pc L (.ref a :: rest))) := by
  subst hp; obtain ⟨T', X', e', st⟩ := initO X hx hZ hown w1 w2 w3 eT (g := mkF m pc L (.ref a :: rest)) rfl hsize rfl (hb hby hd) hf (W := W) (by show 2 * 0 + _ ≤ _; rw [Nat.mul_zero, Nat.zero_add]; exact hW) hl; exact (k T' X' e').go st
theorem own_special (X : Stand p l e R s m args below meth c T locs cells slots) (hx : p.tables.exec = Jvm.exec) (hby : c.code = B) (hZ : Z.Warmed39 s.vm) {own : String} {index : Nat} {y : MethodName} {bytes : ByteArray} {maxL : Nat} {ret : Option FieldType} {rm : Room} {as' : Array Value} {Q : Option Value → Heap → List Loc → Prop} (hy1 : y.name = "<init>") (hown : s.vm.findClass own = some m.cls) (w1 : (Jvm.Cond.methodLink own index y).before a0 Z = true) (w2 : (Jvm.Cond.instanceMethod y).before a0 Z = true) (hret : ret = none) (w3 : (Jvm.Cond.code y bytes maxL ret).before a0 Z = true) (w4 : (Jvm.Cond.initialized y.cls).before a0 Z = true) (hy : y.cls ≠ "java/lang/invoke/MethodHandle" ∧ y.cls ≠ "java/lang/invoke/VarHandle") (hM : MetFree l y (head1 [Jvm.Cond.code y bytes maxL ret] rm) (fun a U => a = as' ∧ Z.Warmed39 U.vm ∧ U.heap = h) (fun _ _ _ _ _ => True) (fun _ U o U' => ∃ v L, o = .returned v ∧ Q v U'.heap L ∧ FrameEnd U o U' L rm.cells rm.slots)) (eT : T.heap = h) (hsize : L.size = c.maxLocals) {a : Addr} {argsL : List Value} (has : as' = (.ref a :: argsL).toArray) (hlen : ∀ sig, parseMethodDescriptor y.desc = some sig → argsL.length = sig.parameters.length) {st : List Value} (hst : st = argsL.reverse ++ .ref a :: rest) (hd : decode B pc = .ok (.invokespecial index, 3)) (hp : pc + 3 = pc') (hf : rm.frames + 1 ≤ R.frames) {W : Nat} (hW : (rest.map fun v => v.category).sum ≤ W) (hl : W + (maxL + 11) + rm.locals ≤ R.locals) (hc : cells + rm.cells ≤ R.cells) (hs : slots + rm.slots ≤ R.slots) (k : ∀ T' h' L' v, Stand p l e R s m args below meth c T' (locs ++ L') (cells + rm.cells) (slots + rm.slots) → T'.heap = h' → Q v h' L' → Gt p.tables e below F (T'.setTop (mkF m pc' L (v.toList ++ rest)))) : Gt p.tables e below F (T.setTop (mkF m pc L st)) := by
  subst hp hret has hst
  obtain ⟨v, vm1, ⟨T', L1, k1, n1⟩, -, X', ⟨Lc, hQ, l1, l2, l3⟩, st⟩ := X.specialBack hx (y := y) hy1 hown (mvT hZ w1) (mvT hZ w2) (mvT hZ w3) hy (backOf (W := W) hM hZ w3 w4 hf hl) (g := mkF m pc L (argsL.reverse ++ .ref a :: rest)) rfl hsize (Steps.refl _) (a := a) (argsL := argsL) (rest := rest) hlen rfl (by show 2 * 0 + _ ≤ _; rw [Nat.mul_zero, Nat.zero_add]; exact hW) (hb hby hd) (fun _ _ => ⟨rfl, eT, hc, hs⟩)
  dsimp only [Pt.U, Pt.locs, Pt.cells, Pt.slots] at X' l1 l2 l3 st hQ
  subst l1 l2 l3
  exact (k T' _ Lc v X' rfl hQ).go fun t q => st.trans q
theorem own_virtual (X : Stand p l e R s m args below meth c T locs cells slots) (hx : p.tables.exec = Jvm.exec) (hby : c.code = B) (hZ : Z.Warmed39 s.vm) {own : String} {index : Nat} {y : MethodName} {bytes : ByteArray} {maxL : Nat} {ret : Option FieldType} {rm : Room} {as' : Array Value} {Q : Option Value → Heap → List Loc → Prop} {C : String} {y' : MethodName} (hown : s.vm.findClass own = some m.cls) (w1 : (Jvm.Cond.methodLink own index y').before a0 Z = true) (w2 : (Jvm.Cond.declares y').before a0 Z = true) (hnf : NotFace s y') (w5 : (Jvm.Cond.selects C y' y).before a0 Z = true) (w6 : (Jvm.Cond.instanceMethod y).before a0 Z = true) (w3 : (Jvm.Cond.code y bytes maxL ret).before a0 Z = true) (w4 : (Jvm.Cond.initialized y.cls).before a0 Z = true) (hy : y'.cls ≠ "java/lang/invoke/MethodHandle" ∧ y'.cls ≠ "java/lang/invoke/VarHandle") (hM : MetFree l y (head1 [Jvm.Cond.code y bytes maxL ret] rm) (fun a U => a = as' ∧ Z.Warmed39 U.vm ∧ U.heap = h) (fun _ _ _ _ _ => True) (fun _ U o U' => ∃ v L, o = .returned v ∧ Q v U'.heap L ∧ FrameEnd U o U' L rm.cells rm.slots)) (eT : T.heap = h) (hsize : L.size = c.maxLocals) {a : Addr} (E : Exa Z h a C) {argsL : List Value} (has : as' = (.ref a :: argsL).toArray) (hlen : ∀ sig, parseMethodDescriptor y'.desc = some sig → argsL.length = sig.parameters.length) {st : List Value} (hst : st = argsL.reverse ++ .ref a :: rest) (hd : decode B pc = .ok (.invokevirtual index, 3)) (hp : pc + 3 = pc') (hf : rm.frames + 1 ≤ R.frames) {W : Nat} (hW : (rest.map fun v => v.category).sum ≤ W) (hl : W + (maxL + 11) + rm.locals ≤ R.locals) (hc : cells + rm.cells ≤ R.cells) (hs : slots + rm.slots ≤ R.slots) (k : ∀ T' h' L' v, Stand p l e R s m args below meth c T' (locs ++ L') (cells + rm.cells) (slots + rm.slots) → T'.heap = h' → Q v h' L' → Gt p.tables e below F (T'.setTop (mkF m pc' L (v.toList ++ rest)))) : Gt p.tables e below F (T.setTop (mkF m pc L st)) := by
  subst hp has hst
  obtain ⟨cq, kq, qa, qb, qc⟩ := isOf hZ eT E
  obtain ⟨v, vm1, ⟨T', L1, k1, n1⟩, -, X', ⟨Lc, hQ, l1, l2, l3⟩, st⟩ := X.virtualBack hx (y := y') (z := y) hown (mvT hZ w1) (mvT hZ w2) hnf (mvT hZ w5) (mvT hZ w6) hy (backOf (W := W) hM hZ w3 w4 hf hl) qa qc (g := mkF m pc L (argsL.reverse ++ .ref a :: rest)) rfl hsize (Steps.refl _) (argsL := argsL) (rest := rest) hlen rfl (by show 2 * 0 + _ ≤ _; rw [Nat.mul_zero, Nat.zero_add]; exact hW) (hb hby hd) (fun _ _ => ⟨rfl, eT, hc, hs⟩)
  dsimp only [Pt.U, Pt.locs, Pt.cells, Pt.slots] at X' l1 l2 l3 st hQ
  subst l1 l2 l3
  exact (k T' _ Lc v X' rfl hQ).go fun t q => st.trans q
theorem own_static (X : Stand p l e R s m args below meth c T locs cells slots) (hx : p.tables.exec = Jvm.exec) (hby : c.code = B) (hZ : Z.Warmed39 s.vm) {own : String} {index : Nat} {y : MethodName} {bytes : ByteArray} {maxL : Nat} {ret : Option FieldType} {rm : Room} {as' : Array Value} {Q : Option Value → Heap → List Loc → Prop} (hown : s.vm.findClass own = some m.cls) (w1 : (Jvm.Cond.methodLink own index y).before a0 Z = true) (w2 : (Jvm.Cond.static y).before a0 Z = true) (w3 : (Jvm.Cond.code y bytes maxL ret).before a0 Z = true) (w4 : (Jvm.Cond.initialized y.cls).before a0 Z = true) (hy : y.cls ≠ "java/lang/invoke/MethodHandle" ∧ y.cls ≠ "java/lang/invoke/VarHandle") (hM : MetFree l y (head1 [Jvm.Cond.code y bytes maxL ret] rm) (fun a U => a = as' ∧ Z.Warmed39 U.vm ∧ U.heap = h) (fun _ _ _ _ _ => True) (fun _ U o U' => ∃ v L, o = .returned v ∧ Q v U'.heap L ∧ FrameEnd U o U' L rm.cells rm.slots)) (eT : T.heap = h) (hsize : L.size = c.maxLocals) {argsL : List Value} (has : as' = argsL.toArray) (hlen : ∀ sig, parseMethodDescriptor y.desc = some sig → argsL.length = sig.parameters.length) {st : List Value} (hst : st = argsL.reverse ++ rest) (hd : decode B pc = .ok (.invokestatic index, 3)) (hp : pc + 3 = pc') (hf : rm.frames + 1 ≤ R.frames) {W : Nat} (hW : (rest.map fun v => v.category).sum ≤ W) (hl : W + (maxL + 11) + rm.locals ≤ R.locals) (hc : cells + rm.cells ≤ R.cells) (hs : slots + rm.slots ≤ R.slots) (k : ∀ T' h' L' v, Stand p l e R s m args below meth c T' (locs ++ L') (cells + rm.cells) (slots + rm.slots) → T'.heap = h' → Q v h' L' → Gt p.tables e below F (T'.setTop (mkF m pc' L (v.toList ++ rest)))) : Gt p.tables e below F (T.setTop (mkF m pc L st)) := by
  subst hp has hst
  obtain ⟨v, vm1, ⟨T', L1, k1, n1⟩, -, X', ⟨Lc, hQ, l1, l2, l3⟩, st⟩ := Jvm.LawKit.callS X hx (y := y) hown (mvT hZ w1) (mvT hZ w2) (mvT hZ w4) (mvT hZ w3) hy (backOf (W := W) hM hZ w3 w4 hf hl) (g := mkF m pc L (argsL.reverse ++ rest)) rfl hsize (argsL := argsL) (rest := rest) hlen rfl (by show 2 * 0 + _ ≤ _; rw [Nat.mul_zero, Nat.zero_add]; exact hW) (hb hby hd) (fun _ _ => ⟨rfl, eT, hc, hs⟩)
  dsimp only [Pt.U, Pt.locs, Pt.cells, Pt.slots] at X' l1 l2 l3 st hQ
  subst l1 l2 l3
  exact (k T' _ Lc v X' rfl hQ).go fun t q => st _ q
theorem own_private (X : Stand p l e R s m args below meth c T locs cells slots) (hx : p.tables.exec = Jvm.exec) (hby : c.code = B) (hZ : Z.Warmed39 s.vm) {own : String} {index : Nat} {y : MethodName} {bytes : ByteArray} {maxL : Nat} {ret : Option FieldType} {rm : Room} {as' : Array Value} {Q : Option Value → Heap → List Loc → Prop} (hown : s.vm.findClass own = some m.cls) (w1 : (Jvm.Cond.methodLink own index y).before a0 Z = true) (w2 : (Jvm.Cond.instanceMethod y).before a0 Z = true) {ni : Nat} (w5 : (Jvm.Cond.instantiable y.cls ni).before a0 Z = true) (w6 : (Jvm.Cond.privateMethod y).before a0 Z = true) (w3 : (Jvm.Cond.code y bytes maxL ret).before a0 Z = true) (w4 : (Jvm.Cond.initialized y.cls).before a0 Z = true) (hy : y.cls ≠ "java/lang/invoke/MethodHandle" ∧ y.cls ≠ "java/lang/invoke/VarHandle") (hM : MetFree l y (head1 [Jvm.Cond.code y bytes maxL ret] rm) (fun a U => a = as' ∧ Z.Warmed39 U.vm ∧ U.heap = h) (fun _ _ _ _ _ => True) (fun _ U o U' => ∃ v L, o = .returned v ∧ Q v U'.heap L ∧ FrameEnd U o U' L rm.cells rm.slots)) (eT : T.heap = h) (hsize : L.size = c.maxLocals) {a : Addr} (E : Exa Z h a y.cls) {argsL : List Value} (has : as' = (.ref a :: argsL).toArray) (hlen : ∀ sig, parseMethodDescriptor y.desc = some sig → argsL.length = sig.parameters.length) {st : List Value} (hst : st = argsL.reverse ++ .ref a :: rest) (hd : decode B pc = .ok (.invokevirtual index, 3)) (hp : pc + 3 = pc') (hf : rm.frames + 1 ≤ R.frames) {W : Nat} (hW : (rest.map fun v => v.category).sum ≤ W) (hl : W + (maxL + 11) + rm.locals ≤ R.locals) (hc : cells + rm.cells ≤ R.cells) (hs : slots + rm.slots ≤ R.slots) (k : ∀ T' h' L' v, Stand p l e R s m args below meth c T' (locs ++ L') (cells + rm.cells) (slots + rm.slots) → T'.heap = h' → Q v h' L' → Gt p.tables e below F (T'.setTop (mkF m pc' L (v.toList ++ rest)))) : Gt p.tables e below F (T.setTop (mkF m pc L st)) := by
  subst hp has hst
  obtain ⟨cq, q1, q2⟩ := E.cell
  obtain ⟨cI, kI, i1, i2, -, i3, -⟩ := Cond.instantiable_spec (mv (s := s) (args := args) hZ w5)
  have hpr := Cond.privateMethod_at (mvP (s := s) hZ w6 (args := #[]))
  have hsel := Jvm.Stand.selects_self_of_private i1 i2 (Bool.or_eq_false_iff.mp i3).1 hpr (mvT (s := s) (args := args) hZ w2) hy
  obtain ⟨v, vm1, ⟨T', L1, k1, n1⟩, -, X', ⟨Lc, hQ, l1, l2, l3⟩, st⟩ := X.privateBack hx (y := y) hown (mvT hZ w1) (mvT hZ w2) hsel hpr (mvT hZ w3) hy (backOf (W := W) hM hZ w3 w4 hf hl) (g := mkF m pc L (argsL.reverse ++ .ref a :: rest)) rfl hsize (Steps.refl _) (a := a) (by rw [eT]; exact q1) q2 (argsL := argsL) (rest := rest) hlen rfl (by show 2 * 0 + _ ≤ _; rw [Nat.mul_zero, Nat.zero_add]; exact hW) (hb hby hd) (fun _ _ => ⟨rfl, eT, hc, hs⟩)
  dsimp only [Pt.U, Pt.locs, Pt.cells, Pt.slots] at X' l1 l2 l3 st hQ
  subst l1 l2 l3
  exact (k T' _ Lc v X' rfl hQ).go fun t q => st.trans q
theorem own_retV (X : Stand p l e R s m args below meth c T locs cells slots) (hx : p.tables.exec = Jvm.exec) (hby : c.code = B) (hlocks : meth.locks = false) {Q : Option Value → Heap → List Loc → Prop} {kc ks : Nat} (hret : meth.sig.returnType = none) (hd : decode B pc = .ok (.return_, 1)) (hc : cells ≤ kc) (hs : slots ≤ ks) (eT : T.heap = h) (hq : Q none h locs) : Gt p.tables e below (fun o U' => ∃ v Lc, o = .returned v ∧ Q v U'.heap Lc ∧ FrameEnd s o U' Lc kc ks) (T.setTop (mkF m pc L [])) := by
  subst eT
  obtain ⟨fs, hr, hrun, hended, hW, hsame⟩ := X.leave (v := none) (fun _ => rfl) hlocks
  exact ⟨_, _, X.returnOut hx hret (hb hby hd) hr, hrun, hended, _, _, rfl, hq, ⟨_, rfl⟩, hW, hsame.mono hc hs⟩
theorem own_retI (X : Stand p l e R s m args below meth c T locs cells slots) (hx : p.tables.exec = Jvm.exec) (hby : c.code = B) (hlocks : meth.locks = false) {Q : Option Value → Heap → List Loc → Prop} {kc ks : Nat} (hret : meth.sig.returnType = some .int) {z : Int32} (hd : decode B pc = .ok (.ireturn, 1)) (hc : cells ≤ kc) (hs : slots ≤ ks) (eT : T.heap = h) (hq : Q (some (.int z)) h locs) : Gt p.tables e below (fun o U' => ∃ v Lc, o = .returned v ∧ Q v U'.heap Lc ∧ FrameEnd s o U' Lc kc ks) (T.setTop (mkF m pc L (.int z :: rest))) := by
  subst eT
  obtain ⟨fs, hr, hrun, hended, hW, hsame⟩ := X.leave (v := (some (.int z))) (fun h => by rw [hret] at h; cases h) hlocks
  exact ⟨_, _, retOut X hx hret rfl (Or.inl ⟨rfl, Or.inl rfl, z, rfl⟩) (hb hby hd) hr, hrun, hended, _, _, rfl, hq, ⟨_, rfl⟩, hW, hsame.mono hc hs⟩
theorem own_retL (X : Stand p l e R s m args below meth c T locs cells slots) (hx : p.tables.exec = Jvm.exec) (hby : c.code = B) (hlocks : meth.locks = false) {Q : Option Value → Heap → List Loc → Prop} {kc ks : Nat} (hret : meth.sig.returnType = some .long) {z : Int64} (hd : decode B pc = .ok (.lreturn, 1)) (hc : cells ≤ kc) (hs : slots ≤ ks) (eT : T.heap = h) (hq : Q (some (.long z)) h locs) : Gt p.tables e below (fun o U' => ∃ v Lc, o = .returned v ∧ Q v U'.heap Lc ∧ FrameEnd s o U' Lc kc ks) (T.setTop (mkF m pc L (.long z :: rest))) := by
  subst eT
  obtain ⟨fs, hr, hrun, hended, hW, hsame⟩ := X.leave (v := (some (.long z))) (fun h => by rw [hret] at h; cases h) hlocks
  exact ⟨_, _, retOut X hx hret rfl (Or.inr (Or.inl ⟨rfl, rfl, z, rfl⟩)) (hb hby hd) hr, hrun, hended, _, _, rfl, hq, ⟨_, rfl⟩, hW, hsame.mono hc hs⟩
theorem own_retD (X : Stand p l e R s m args below meth c T locs cells slots) (hx : p.tables.exec = Jvm.exec) (hby : c.code = B) (hlocks : meth.locks = false) {Q : Option Value → Heap → List Loc → Prop} {kc ks : Nat} (hret : meth.sig.returnType = some .double) {z : UInt64} (hd : decode B pc = .ok (.dreturn, 1)) (hc : cells ≤ kc) (hs : slots ≤ ks) (eT : T.heap = h) (hq : Q (some (.double z)) h locs) : Gt p.tables e below (fun o U' => ∃ v Lc, o = .returned v ∧ Q v U'.heap Lc ∧ FrameEnd s o U' Lc kc ks) (T.setTop (mkF m pc L (.double z :: rest))) := by
  subst eT
  obtain ⟨fs, hr, hrun, hended, hW, hsame⟩ := X.leave (v := (some (.double z))) (fun h => by rw [hret] at h; cases h) hlocks
  exact ⟨_, _, retOut X hx hret rfl (Or.inr (Or.inr (Or.inl ⟨rfl, rfl, z, rfl⟩))) (hb hby hd) hr, hrun, hended, _, _, rfl, hq, ⟨_, rfl⟩, hW, hsame.mono hc hs⟩
theorem own_retZ (X : Stand p l e R s m args below meth c T locs cells slots) (hx : p.tables.exec = Jvm.exec) (hby : c.code = B) (hlocks : meth.locks = false) {Q : Option Value → Heap → List Loc → Prop} {kc ks : Nat} (hret : meth.sig.returnType = some .boolean) {z : Int32} (hz : z = 0 ∨ z = 1) (hd : decode B pc = .ok (.ireturn, 1)) (hc : cells ≤ kc) (hs : slots ≤ ks) (eT : T.heap = h) (hq : Q (some (.int z)) h locs) : Gt p.tables e below (fun o U' => ∃ v Lc, o = .returned v ∧ Q v U'.heap Lc ∧ FrameEnd s o U' Lc kc ks) (T.setTop (mkF m pc L (.int z :: rest))) := by
  subst eT
  obtain ⟨fs, hr, hrun, hended, hW, hsame⟩ := X.leave (v := (some (.int z))) (fun h => by rw [hret] at h; cases h) hlocks
  exact ⟨_, _, retOut X hx hret (by rcases hz with rfl | rfl <;> rfl) (Or.inl ⟨rfl, Or.inr (Or.inl rfl), z, rfl⟩) (hb hby hd) hr, hrun, hended, _, _, rfl, hq, ⟨_, rfl⟩, hW, hsame.mono hc hs⟩
theorem own_retA (X : Stand p l e R s m args below meth c T locs cells slots) (hx : p.tables.exec = Jvm.exec) (hby : c.code = B) (hlocks : meth.locks = false) {Q : Option Value → Heap → List Loc → Prop} {kc ks : Nat} {t : FieldType} (hret : meth.sig.returnType = some t) (ht : t.isReference = true) {z : Value} (hz : z.isRef = true) (hd : decode B pc = .ok (.areturn, 1)) (hc : cells ≤ kc) (hs : slots ≤ ks) (eT : T.heap = h) (hq : Q (some z) h locs) : Gt p.tables e below (fun o U' => ∃ v Lc, o = .returned v ∧ Q v U'.heap Lc ∧ FrameEnd s o U' Lc kc ks) (T.setTop (mkF m pc L (z :: rest))) := by
  subst eT
  obtain ⟨fs, hr, hrun, hended, hW, hsame⟩ := X.leave (v := (some z)) (fun h => by rw [hret] at h; cases h) hlocks
  exact ⟨_, _, retOut X hx hret (by rcases ref_cases hz with rfl | ⟨a, rfl⟩ <;> cases t <;> simp_all [narrow, FieldType.isReference]) (Or.inr (Or.inr (Or.inr (Or.inr ⟨rfl, ht, hz⟩)))) (hb hby hd) hr, hrun, hended, _, _, rfl, hq, ⟨_, rfl⟩, hW, hsame.mono hc hs⟩
end OwnG
section OwnA
variable {p : Program} {l : Launch} {e : Env} {R : Room} {s : State} {m : MethodId} {args : Array Value} {below : List Frame} {meth : Method} {c : Code} {T : State} {locs : List Loc} {cells slots : Nat} {Z : State} {a0 : Array Value} {h h' : Heap} {B : ByteArray} {pc pc' : Nat} {L L' : Array Slot} {rest : List Value} {F : Outcome → State → Prop} {a b : Addr} {ty : FieldType} {vs : List Value} {P : ClassId → Prop} {sl : Nat} {v : Value} {ws : List Addr}
def tr (_ : ClassId) : Prop := True
/-- an array at a of kind ty whose components are the list vs, of a class with P -/
def Ary (P : ClassId → Prop) (Z : State) (h : Heap) (a : Addr) (ty : FieldType) (vs : List Value) : Prop := ∃ c : Cell, Arr Z h a c ty ∧ P c.cls ∧ c.slots.toList = vs ∧ vs.length < 2 ^ 31
theorem Ary.lt (V : Ary P Z h a ty vs) : a < h.size := by obtain ⟨c, A, -⟩ := V; exact A.lt
theorem Ary.ext (V : Ary P Z h a ty vs) (E : Ext h h') : Ary P Z h' a ty vs := by obtain ⟨c, A, r⟩ := V; exact ⟨c, A.ext E, r⟩
theorem Ary.other (V : Ary P Z h b ty vs) (W : Wr h h' a sl v) (q : b ≠ a) : Ary P Z h' b ty vs := by obtain ⟨c, A, r⟩ := V; exact ⟨c, A.other W q, r⟩
theorem Ary.keep (V : Ary P Z h a ty vs) (K : Keep h h' ws) (q : a ∉ ws) : Ary P Z h' a ty vs := by obtain ⟨c, A, r⟩ := V; exact ⟨c, ⟨K.2.1 a c A.1 q, A.2⟩, r⟩
theorem Ary.set (V : Ary P Z h a ty vs) (W : Wr h h' a sl v) : Ary P Z h' a ty (vs.set sl v) := by
  obtain ⟨c, A, q, r, t⟩ := V
  refine ⟨_, A.same W, q, ?_, by rw [List.length_set]; exact t⟩
  show (c.slots.setIfInBounds sl v).toList = _
  rw [Array.toList_setIfInBounds, r]
theorem Ary.size {cl : Cell} (r : cl.slots.toList = vs) : cl.slots.size = vs.length := by rw [← r]; simp
theorem Ary.inb {cl : Cell} {i : Int32} (r : cl.slots.toList = vs) (hi : ¬ i < 0) (hl : i.toNatClampNeg < vs.length) : ¬ (i < 0 ∨ cl.slots.size ≤ i.toNatClampNeg) := by
  rw [Ary.size r]; intro q; rcases q with q | q
  · exact hi q
  · omega
theorem Ary.at {cl : Cell} {i : Nat} (r : cl.slots.toList = vs) (hg : vs[i]? = some v) : cl.slots[i]? = some v := by
  rw [← hg, ← r]; simp
theorem own_alen (X : Stand p l e R s m args below meth c T locs cells slots) (hx : p.tables.exec = Jvm.exec) (hby : c.code = B) (hZ : Z.Warmed39 s.vm) (eT : T.heap = h) (V : Ary P Z h a ty vs) {z : Int32} (hz : vs.length.toInt32 = z) (hd : decode B pc = .ok (.arraylength, 1)) (hp : pc + 1 = pc') (k : Gt p.tables e below F (T.setTop (mkF m pc' L (.int z :: rest)))) : Gt p.tables e below F (T.setTop (mkF m pc L (.ref a :: rest))) := by
  subst hp hz
  obtain ⟨cl, A, -, r, t⟩ := V
  refine k.go fun t q => X.arraylength hx (by rw [eT]; exact A.1) (State.isArrayOf_alike hZ.alike A.2.1) (g := mkF m pc L (.ref a :: rest)) rfl rfl (hb hby hd) _ ?_
  rw [Ary.size r]; exact q
theorem own_iaload (X : Stand p l e R s m args below meth c T locs cells slots) (hx : p.tables.exec = Jvm.exec) (hby : c.code = B) (hZ : Z.Warmed39 s.vm) (eT : T.heap = h) (V : Ary P Z h a .int vs) {i : Int32} (hi : ¬ i < 0) (hg : vs[i.toNatClampNeg]? = some v) (hd : decode B pc = .ok (.iaload, 1)) (hp : pc + 1 = pc') (k : Gt p.tables e below F (T.setTop (mkF m pc' L (v :: rest)))) : Gt p.tables e below F (T.setTop (mkF m pc L (.int i :: .ref a :: rest))) := by
  subst hp
  obtain ⟨cl, A, -, r, t⟩ := V
  exact k.go fun t q => X.iaload hx (by rw [eT]; exact A.1) (State.isArrayOf_alike hZ.alike A.2.1) A.2.2 (Ary.inb r hi (List.getElem?_eq_some_iff.mp hg).1) (Ary.at r hg) (g := mkF m pc L (.int i :: .ref a :: rest)) rfl rfl (hb hby hd) _ q
theorem own_laload (X : Stand p l e R s m args below meth c T locs cells slots) (hx : p.tables.exec = Jvm.exec) (hby : c.code = B) (hZ : Z.Warmed39 s.vm) (eT : T.heap = h) (V : Ary P Z h a .long vs) {i : Int32} (hi : ¬ i < 0) (hg : vs[i.toNatClampNeg]? = some v) (hd : decode B pc = .ok (.laload, 1)) (hp : pc + 1 = pc') (k : Gt p.tables e below F (T.setTop (mkF m pc' L (v :: rest)))) : Gt p.tables e below F (T.setTop (mkF m pc L (.int i :: .ref a :: rest))) := by
  subst hp
  obtain ⟨cl, A, -, r, t⟩ := V
  exact k.go fun t q => X.laload hx (by rw [eT]; exact A.1) (State.isArrayOf_alike hZ.alike A.2.1) A.2.2 (Ary.inb r hi (List.getElem?_eq_some_iff.mp hg).1) (Ary.at r hg) (g := mkF m pc L (.int i :: .ref a :: rest)) rfl rfl (hb hby hd) _ q
theorem own_daload (X : Stand p l e R s m args below meth c T locs cells slots) (hx : p.tables.exec = Jvm.exec) (hby : c.code = B) (hZ : Z.Warmed39 s.vm) (eT : T.heap = h) (V : Ary P Z h a .double vs) {i : Int32} (hi : ¬ i < 0) (hg : vs[i.toNatClampNeg]? = some v) (hd : decode B pc = .ok (.daload, 1)) (hp : pc + 1 = pc') (k : Gt p.tables e below F (T.setTop (mkF m pc' L (v :: rest)))) : Gt p.tables e below F (T.setTop (mkF m pc L (.int i :: .ref a :: rest))) := by
  subst hp
  obtain ⟨cl, A, -, r, t⟩ := V
  exact k.go fun t q => X.daload hx (by rw [eT]; exact A.1) (State.isArrayOf_alike hZ.alike A.2.1) A.2.2 (Ary.inb r hi (List.getElem?_eq_some_iff.mp hg).1) (Ary.at r hg) (g := mkF m pc L (.int i :: .ref a :: rest)) rfl rfl (hb hby hd) _ q
theorem own_aaload (X : Stand p l e R s m args below meth c T locs cells slots) (hx : p.tables.exec = Jvm.exec) (hby : c.code = B) (hZ : Z.Warmed39 s.vm) (eT : T.heap = h) (V : Ary P Z h a ty vs) (hty : ty.isReference = true) {i : Int32} (hi : ¬ i < 0) (hg : vs[i.toNatClampNeg]? = some v) (hd : decode B pc = .ok (.aaload, 1)) (hp : pc + 1 = pc') (k : Gt p.tables e below F (T.setTop (mkF m pc' L (v :: rest)))) : Gt p.tables e below F (T.setTop (mkF m pc L (.int i :: .ref a :: rest))) := by
  subst hp
  obtain ⟨cl, A, -, r, t⟩ := V
  exact k.go fun t q => X.aaload hx (by rw [eT]; exact A.1) (State.isArrayOf_alike hZ.alike A.2.1) hty A.2.2 (Ary.inb r hi (List.getElem?_eq_some_iff.mp hg).1) (Ary.at r hg) (g := mkF m pc L (.int i :: .ref a :: rest)) rfl rfl (hb hby hd) _ q
theorem own_iastore (X : Stand p l e R s m args below meth c T locs cells slots) (hx : p.tables.exec = Jvm.exec) (hby : c.code = B) (hZ : Z.Warmed39 s.vm) (eT : T.heap = h) (V : Ary P Z h a .int vs) {i x : Int32} {n : Nat} (hi : ¬ i < 0) (hn : i.toNatClampNeg = n) (hl : n < vs.length) (hd : decode B pc = .ok (.iastore, 1)) (hp : pc + 1 = pc') (k : ∀ T' h', Stand p l e R s m args below meth c T' (locs ++ [⟨a, n⟩]) cells slots → T'.heap = h' → Wr h h' a n (.int x) → Gt p.tables e below F (T'.setTop (mkF m pc' L rest))) : Gt p.tables e below F (T.setTop (mkF m pc L (.int x :: .int i :: .ref a :: rest))) := by
  subst hp hn
  obtain ⟨cl, A, -, r, t⟩ := V
  obtain ⟨T', h', X', e', W, st⟩ := stI X hx hZ eT A (Ary.inb r hi hl) (g := mkF m pc L (.int x :: .int i :: .ref a :: rest)) rfl rfl (hb hby hd)
  exact (k T' h' X' e' W).go st
theorem own_lastore (X : Stand p l e R s m args below meth c T locs cells slots) (hx : p.tables.exec = Jvm.exec) (hby : c.code = B) (hZ : Z.Warmed39 s.vm) (eT : T.heap = h) (V : Ary P Z h a .long vs) {i : Int32} {x : Int64} {n : Nat} (hi : ¬ i < 0) (hn : i.toNatClampNeg = n) (hl : n < vs.length) (hd : decode B pc = .ok (.lastore, 1)) (hp : pc + 1 = pc') (k : ∀ T' h', Stand p l e R s m args below meth c T' (locs ++ [⟨a, n⟩]) cells slots → T'.heap = h' → Wr h h' a n (.long x) → Gt p.tables e below F (T'.setTop (mkF m pc' L rest))) : Gt p.tables e below F (T.setTop (mkF m pc L (.long x :: .int i :: .ref a :: rest))) := by
  subst hp hn
  obtain ⟨cl, A, -, r, t⟩ := V
  obtain ⟨T', h', X', e', W, st⟩ := stJ X hx hZ eT A (Ary.inb r hi hl) (g := mkF m pc L (.long x :: .int i :: .ref a :: rest)) rfl rfl (hb hby hd)
  exact (k T' h' X' e' W).go st
theorem own_dastore (X : Stand p l e R s m args below meth c T locs cells slots) (hx : p.tables.exec = Jvm.exec) (hby : c.code = B) (hZ : Z.Warmed39 s.vm) (eT : T.heap = h) (V : Ary P Z h a .double vs) {i : Int32} {x : UInt64} {n : Nat} (hi : ¬ i < 0) (hn : i.toNatClampNeg = n) (hl : n < vs.length) (hd : decode B pc = .ok (.dastore, 1)) (hp : pc + 1 = pc') (k : ∀ T' h', Stand p l e R s m args below meth c T' (locs ++ [⟨a, n⟩]) cells slots → T'.heap = h' → Wr h h' a n (.double x) → Gt p.tables e below F (T'.setTop (mkF m pc' L rest))) : Gt p.tables e below F (T.setTop (mkF m pc L (.double x :: .int i :: .ref a :: rest))) := by
  subst hp hn
  obtain ⟨cl, A, -, r, t⟩ := V
  obtain ⟨T', h', X', e', W, st⟩ := stD X hx hZ eT A (Ary.inb r hi hl) (g := mkF m pc L (.double x :: .int i :: .ref a :: rest)) rfl rfl (hb hby hd)
  exact (k T' h' X' e' W).go st
/-- what lies in it: an array class over C -/
def ovA (Z : State) (ty : FieldType) (C : String) (k : ClassId) : Prop := OvrA Z k ty C
def ovO (Z : State) (C : String) (k : ClassId) : Prop := Ovr Z k C
theorem own_aastoreA (X : Stand p l e R s m args below meth c T locs cells slots) (hx : p.tables.exec = Jvm.exec) (hby : c.code = B) (hZ : Z.Warmed39 s.vm) (eT : T.heap = h) {C : String} (V : Ary (ovA Z ty C) Z h a (.array ty) vs) {i : Int32} {x : Addr} {n : Nat} (E : Exa Z h x C) (hi : ¬ i < 0) (hn : i.toNatClampNeg = n) (hl : n < vs.length) (hd : decode B pc = .ok (.aastore, 1)) (hp : pc + 1 = pc') (k : ∀ T' h', Stand p l e R s m args below meth c T' (locs ++ [⟨a, n⟩]) cells slots → T'.heap = h' → Wr h h' a n (.ref x) → Gt p.tables e below F (T'.setTop (mkF m pc' L rest))) : Gt p.tables e below F (T.setTop (mkF m pc L (.ref x :: .int i :: .ref a :: rest))) := by
  subst hp hn
  obtain ⟨cl, A, O, r, t⟩ := V
  obtain ⟨T', h', X', e', W, st⟩ := stR X hx hZ eT A (Ary.inb r hi hl) rfl (Sto.ofVA A rfl O (Ins.self E)) (g := mkF m pc L (.ref x :: .int i :: .ref a :: rest)) rfl rfl (hb hby hd)
  exact (k T' h' X' e' W).go st
theorem own_aastoreO (X : Stand p l e R s m args below meth c T locs cells slots) (hx : p.tables.exec = Jvm.exec) (hby : c.code = B) (hZ : Z.Warmed39 s.vm) (eT : T.heap = h) {C : String} (V : Ary (ovO Z C) Z h a (.object C) vs) {i : Int32} {x : Addr} {n : Nat} (E : Exa Z h x C) (hi : ¬ i < 0) (hn : i.toNatClampNeg = n) (hl : n < vs.length) (hd : decode B pc = .ok (.aastore, 1)) (hp : pc + 1 = pc') (k : ∀ T' h', Stand p l e R s m args below meth c T' (locs ++ [⟨a, n⟩]) cells slots → T'.heap = h' → Wr h h' a n (.ref x) → Gt p.tables e below F (T'.setTop (mkF m pc' L rest))) : Gt p.tables e below F (T.setTop (mkF m pc L (.ref x :: .int i :: .ref a :: rest))) := by
  subst hp hn
  obtain ⟨cl, A, O, r, t⟩ := V
  obtain ⟨T', h', X', e', W, st⟩ := stR X hx hZ eT A (Ary.inb r hi hl) rfl (Sto.of A O (Ins.self E)) (g := mkF m pc L (.ref x :: .int i :: .ref a :: rest)) rfl rfl (hb hby hd)
  exact (k T' h' X' e' W).go st
theorem own_newP (X : Stand p l e R s m args below meth c T locs cells slots) (hx : p.tables.exec = Jvm.exec) (hby : c.code = B) (hZ : Z.Warmed39 s.vm) {aty : ArrayType} (w : (Jvm.Cond.arrayClass (newarray.typeOf aty)).before a0 Z = true) (eT : T.heap = h) (hd : decode B pc = .ok (.newarray aty, 2)) (hp : pc + 2 = pc') {n : Int32} (hn : ¬ n < 0) {N : Nat} (hN : n.toNatClampNeg = N) {cap : Nat} (hcap : N ≤ cap) (hbb : cap * 8 ≤ 536870912) (hc : cells + 1 ≤ R.cells) (hl : slots + cap ≤ R.slots) {ad : String} (had : "[" ++ (newarray.typeOf aty).toString = ad)
    (k : ∀ T' h' a, Stand p l e R s m args below meth c T' locs (cells + 1) (slots + cap) → T'.heap = h' → Ext h h' → h.size = a → Exa Z h' a ad → Ary tr Z h' a (newarray.typeOf aty) (List.replicate N (defaultValue (newarray.typeOf aty))) → Gt p.tables e below F (T'.setTop (mkF m pc' L (.ref a :: rest)))) : Gt p.tables e below F (T.setTop (mkF m pc L (.int n :: rest))) := by
  subst hp hN
  obtain ⟨T', h', cA, X', e', E', A', Ex, st⟩ := newPE X hx hZ w eT (g := mkF m pc L (.int n :: rest)) rfl (hb hby hd) rfl hn hcap hbb hc hl had
  exact (k T' h' _ X' e' E' rfl Ex ⟨_, A', trivial, by simp [newA], by rw [List.length_replicate]; exact (back32 hn).2⟩).go st
theorem own_newRA (X : Stand p l e R s m args below meth c T locs cells slots) (hx : p.tables.exec = Jvm.exec) (hby : c.code = B) (hZ : Z.Warmed39 s.vm) {own C : String} {index : Nat} (hown : s.vm.findClass own = some m.cls) (hC : (FieldType.array ty).toString = C) (w1 : (Jvm.Cond.classLink own index C).before a0 Z = true) (w2 : (Jvm.Cond.arrayOver (.array ty)).before a0 Z = true) (eT : T.heap = h) (hd : decode B pc = .ok (.anewarray index, 3)) (hp : pc + 3 = pc') {n : Int32} (hn : ¬ n < 0) {N : Nat} (hN : n.toNatClampNeg = N) {cap : Nat} (hcap : N ≤ cap) (hbb : cap * 8 ≤ 536870912) (hc : cells + 1 ≤ R.cells) (hl : slots + cap ≤ R.slots) {ad : String} (had : "[" ++ C = ad)
    (k : ∀ T' h' a, Stand p l e R s m args below meth c T' locs (cells + 1) (slots + cap) → T'.heap = h' → Ext h h' → h.size = a → Exa Z h' a ad → Ary (ovA Z ty C) Z h' a (.array ty) (List.replicate N .null) → Gt p.tables e below F (T'.setTop (mkF m pc' L (.ref a :: rest)))) : Gt p.tables e below F (T.setTop (mkF m pc L (.int n :: rest))) := by
  subst hp hN
  obtain ⟨T', h', cA, X', e', E', A', Ex, O, st⟩ := newRA X hx hZ hown hC w1 w2 eT (g := mkF m pc L (.int n :: rest)) rfl (hb hby hd) rfl hn hcap hbb hc hl had
  exact (k T' h' _ X' e' E' rfl Ex ⟨_, A', O, by simp [newA, defaultValue], by rw [List.length_replicate]; exact (back32 hn).2⟩).go st
theorem own_newRO (X : Stand p l e R s m args below meth c T locs cells slots) (hx : p.tables.exec = Jvm.exec) (hby : c.code = B) (hZ : Z.Warmed39 s.vm) {own C : String} {index : Nat} (hown : s.vm.findClass own = some m.cls) (w1 : (Jvm.Cond.classLink own index C).before a0 Z = true) (w2 : (Jvm.Cond.arrayOver (.object C)).before a0 Z = true) (eT : T.heap = h) (hd : decode B pc = .ok (.anewarray index, 3)) (hp : pc + 3 = pc') {n : Int32} (hn : ¬ n < 0) {N : Nat} (hN : n.toNatClampNeg = N) {cap : Nat} (hcap : N ≤ cap) (hbb : cap * 8 ≤ 536870912) (hc : cells + 1 ≤ R.cells) (hl : slots + cap ≤ R.slots) {ad : String} (had : "[" ++ (FieldType.object C).toString = ad)
    (k : ∀ T' h' a, Stand p l e R s m args below meth c T' locs (cells + 1) (slots + cap) → T'.heap = h' → Ext h h' → h.size = a → Exa Z h' a ad → Ary (ovO Z C) Z h' a (.object C) (List.replicate N .null) → Gt p.tables e below F (T'.setTop (mkF m pc' L (.ref a :: rest)))) : Gt p.tables e below F (T.setTop (mkF m pc L (.int n :: rest))) := by
  subst hp hN
  obtain ⟨T', h', cA, X', e', E', A', Ex, O, st⟩ := newRE X hx hZ hown w1 w2 eT (g := mkF m pc L (.int n :: rest)) rfl (hb hby hd) rfl hn hcap hbb hc hl had
  exact (k T' h' _ X' e' E' rfl Ex ⟨_, A', O, by simp [newA, defaultValue], by rw [List.length_replicate]; exact (back32 hn).2⟩).go st
/-- new T[3][3] of a primitive kind -/
theorem own_grid3 (X : Stand p l e R s m args below meth c T locs cells slots) (hx : p.tables.exec = Jvm.exec) (hby : c.code = B) (hZ : Z.Warmed39 s.vm) {own C ad : String} {index : Nat} (hown : s.vm.findClass own = some m.cls) (hC : (FieldType.array ty).toString = C) (had : "[" ++ C = ad)
    (w1 : (Jvm.Cond.classLink own index ad).before a0 Z = true) (w2 : (Jvm.Cond.arrayOver (.array ty)).before a0 Z = true) (w3 : (Jvm.Cond.arrayClass ty).before a0 Z = true) (eT : T.heap = h) (hd : decode B pc = .ok (.multianewarray index 2, 4)) (hp : pc + 4 = pc') (hdf : fits ty (defaultValue ty) = true) (hdd : (defaultValue ty).isDefault = true) (hc : cells + 4 ≤ R.cells) (hl : slots + 12 ≤ R.slots)
    (k : ∀ T' h' a b1 b2 b3, Stand p l e R s m args below meth c T' locs (cells + 4) (slots + 12) → T'.heap = h' → Ext h h' → h.size = a → a < b1 → b1 < b2 → b2 < b3 → Exa Z h' a ad → Ary (ovA Z ty C) Z h' a (.array ty) [.ref b1, .ref b2, .ref b3] → Exa Z h' b1 C → Exa Z h' b2 C → Exa Z h' b3 C → Ary tr Z h' b1 ty [defaultValue ty, defaultValue ty, defaultValue ty] → Ary tr Z h' b2 ty [defaultValue ty, defaultValue ty, defaultValue ty] → Ary tr Z h' b3 ty [defaultValue ty, defaultValue ty, defaultValue ty] → Gt p.tables e below F (T'.setTop (mkF m pc' L (.ref a :: rest)))) : Gt p.tables e below F (T.setTop (mkF m pc L (.int 3 :: .int 3 :: rest))) := by
  subst hp
  obtain ⟨T', h', cA, comp, X', e', E', ⟨cl, A1, A2, A3, A4, A5, A6⟩, O, Ex, I, st⟩ := gridM X hx hZ hown hC had w1 w2 w3 eT (g := mkF m pc L (.int 3 :: .int 3 :: rest)) rfl (hb hby hd) (n := 3) (k := 3) rfl (by decide) (by decide) (N := 3) (by decide) (xs := [h.size + 1, h.size + 2, h.size + 3]) rfl (cap := 3) (by decide) (by decide) (by decide) hdf hdd hc hl
  have i1 := I 0 _ rfl; have i2 := I 1 _ rfl; have i3 := I 2 _ rfl
  have f : ∀ x, Arr Z h' x (newA comp ty 3) ty → Ary tr Z h' x ty [defaultValue ty, defaultValue ty, defaultValue ty] := fun x q => ⟨_, q, trivial, by simp [newA], by show 3 < 2 ^ 31; decide⟩
  refine (k T' h' _ _ _ _ X' e' E' rfl (Nat.lt_succ_self _) (Nat.lt_succ_self _) (Nat.lt_succ_self _) Ex ⟨cl, A1, A2 ▸ O, ?_, by show 3 < 2 ^ 31; decide⟩ i1.2 i2.2 i3.2 (f _ i1.1) (f _ i2.1) (f _ i3.1)).go st
  have sz : cl.slots.size = 3 := A3
  refine List.ext_getElem? fun i => ?_
  by_cases hi : i < 3
  · have q := A5 i (by omega)
    rw [Array.getElem?_toList, q]
    match i, hi with
    | 0, _ => rfl
    | 1, _ => rfl
    | 2, _ => rfl
  · rw [List.getElem?_eq_none (by simp; omega), List.getElem?_eq_none (by simp; omega)]
end OwnA
section OwnL
theorem own_lget {α : Type} {L : List α} {d : α} {i : Nat} {f : α → Value} (h : i < L.length) : (L.map f)[i]? = some (f (L.getD i d)) := by
  rw [List.getElem?_map, List.getD_eq_getElem?_getD, List.getElem?_eq_getElem h]; rfl
theorem own_rg0 {i : Int32} {m : Int} (h : 0 ≤ i.toInt ∧ i.toInt < m) : ¬ i < 0 := by
  rw [Int32.lt_iff_toInt_lt]; have : (0 : Int32).toInt = 0 := by decide
  omega
theorem own_rgl {α : Type} {L : List α} {i : Int32} {m : Int} {n : Nat} (h : 0 ≤ i.toInt ∧ i.toInt < m) (hl : L.length = n) (e : m.toNat = n := by rfl) : i.toNatClampNeg < L.length := by
  show i.toInt.toNat < _; omega
end OwnL
section OwnC
variable {x y : UInt64} {i j : Int64} {a b : Int32}
abbrev dlt (x y : UInt64) : Prop := FP.dcmp x y = some .lt
abbrev dgt (x y : UInt64) : Prop := FP.dcmp x y = some .gt
abbrev deq (x y : UInt64) : Prop := FP.dcmp x y = some .eq
abbrev dle (x y : UInt64) : Prop := FP.dcmp x y = some .lt ∨ FP.dcmp x y = some .eq
abbrev dge (x y : UInt64) : Prop := FP.dcmp x y = some .gt ∨ FP.dcmp x y = some .eq
theorem own_dl_lt_p (h : dge x y) : ifCond.holds .lt (cmpValue (FP.dcmp x y) .l) = false := by
  unfold dge at h; revert h; generalize FP.dcmp x y = o; rcases o with _ | (_ | _ | _) <;> decide
theorem own_dl_lt_n (h : ¬ dge x y) : ifCond.holds .lt (cmpValue (FP.dcmp x y) .l) = true := by
  unfold dge at h; revert h; generalize FP.dcmp x y = o; rcases o with _ | (_ | _ | _) <;> decide
theorem own_dl_ge_p (h : dge x y) : ifCond.holds .ge (cmpValue (FP.dcmp x y) .l) = true := by
  unfold dge at h; revert h; generalize FP.dcmp x y = o; rcases o with _ | (_ | _ | _) <;> decide
theorem own_dl_ge_n (h : ¬ dge x y) : ifCond.holds .ge (cmpValue (FP.dcmp x y) .l) = false := by
  unfold dge at h; revert h; generalize FP.dcmp x y = o; rcases o with _ | (_ | _ | _) <;> decide
theorem own_dl_gt_p (h : dgt x y) : ifCond.holds .gt (cmpValue (FP.dcmp x y) .l) = true := by
  unfold dgt at h; revert h; generalize FP.dcmp x y = o; rcases o with _ | (_ | _ | _) <;> decide
theorem own_dl_gt_n (h : ¬ dgt x y) : ifCond.holds .gt (cmpValue (FP.dcmp x y) .l) = false := by
  unfold dgt at h; revert h; generalize FP.dcmp x y = o; rcases o with _ | (_ | _ | _) <;> decide
theorem own_dl_le_p (h : dgt x y) : ifCond.holds .le (cmpValue (FP.dcmp x y) .l) = false := by
  unfold dgt at h; revert h; generalize FP.dcmp x y = o; rcases o with _ | (_ | _ | _) <;> decide
theorem own_dl_le_n (h : ¬ dgt x y) : ifCond.holds .le (cmpValue (FP.dcmp x y) .l) = true := by
  unfold dgt at h; revert h; generalize FP.dcmp x y = o; rcases o with _ | (_ | _ | _) <;> decide
theorem own_dl_eq_p (h : deq x y) : ifCond.holds .eq (cmpValue (FP.dcmp x y) .l) = true := by
  unfold deq at h; revert h; generalize FP.dcmp x y = o; rcases o with _ | (_ | _ | _) <;> decide
theorem own_dl_eq_n (h : ¬ deq x y) : ifCond.holds .eq (cmpValue (FP.dcmp x y) .l) = false := by
  unfold deq at h; revert h; generalize FP.dcmp x y = o; rcases o with _ | (_ | _ | _) <;> decide
theorem own_dl_ne_p (h : deq x y) : ifCond.holds .ne (cmpValue (FP.dcmp x y) .l) = false := by
  unfold deq at h; revert h; generalize FP.dcmp x y = o; rcases o with _ | (_ | _ | _) <;> decide
theorem own_dl_ne_n (h : ¬ deq x y) : ifCond.holds .ne (cmpValue (FP.dcmp x y) .l) = true := by
  unfold deq at h; revert h; generalize FP.dcmp x y = o; rcases o with _ | (_ | _ | _) <;> decide
theorem own_dg_lt_p (h : dlt x y) : ifCond.holds .lt (cmpValue (FP.dcmp x y) .g) = true := by
  unfold dlt at h; revert h; generalize FP.dcmp x y = o; rcases o with _ | (_ | _ | _) <;> decide
theorem own_dg_lt_n (h : ¬ dlt x y) : ifCond.holds .lt (cmpValue (FP.dcmp x y) .g) = false := by
  unfold dlt at h; revert h; generalize FP.dcmp x y = o; rcases o with _ | (_ | _ | _) <;> decide
theorem own_dg_ge_p (h : dlt x y) : ifCond.holds .ge (cmpValue (FP.dcmp x y) .g) = false := by
  unfold dlt at h; revert h; generalize FP.dcmp x y = o; rcases o with _ | (_ | _ | _) <;> decide
theorem own_dg_ge_n (h : ¬ dlt x y) : ifCond.holds .ge (cmpValue (FP.dcmp x y) .g) = true := by
  unfold dlt at h; revert h; generalize FP.dcmp x y = o; rcases o with _ | (_ | _ | _) <;> decide
theorem own_dg_gt_p (h : dle x y) : ifCond.holds .gt (cmpValue (FP.dcmp x y) .g) = false := by
  unfold dle at h; revert h; generalize FP.dcmp x y = o; rcases o with _ | (_ | _ | _) <;> decide
theorem own_dg_gt_n (h : ¬ dle x y) : ifCond.holds .gt (cmpValue (FP.dcmp x y) .g) = true := by
  unfold dle at h; revert h; generalize FP.dcmp x y = o; rcases o with _ | (_ | _ | _) <;> decide
theorem own_dg_le_p (h : dle x y) : ifCond.holds .le (cmpValue (FP.dcmp x y) .g) = true := by
  unfold dle at h; revert h; generalize FP.dcmp x y = o; rcases o with _ | (_ | _ | _) <;> decide
theorem own_dg_le_n (h : ¬ dle x y) : ifCond.holds .le (cmpValue (FP.dcmp x y) .g) = false := by
  unfold dle at h; revert h; generalize FP.dcmp x y = o; rcases o with _ | (_ | _ | _) <;> decide
theorem own_dg_eq_p (h : deq x y) : ifCond.holds .eq (cmpValue (FP.dcmp x y) .g) = true := by
  unfold deq at h; revert h; generalize FP.dcmp x y = o; rcases o with _ | (_ | _ | _) <;> decide
theorem own_dg_eq_n (h : ¬ deq x y) : ifCond.holds .eq (cmpValue (FP.dcmp x y) .g) = false := by
  unfold deq at h; revert h; generalize FP.dcmp x y = o; rcases o with _ | (_ | _ | _) <;> decide
theorem own_dg_ne_p (h : deq x y) : ifCond.holds .ne (cmpValue (FP.dcmp x y) .g) = false := by
  unfold deq at h; revert h; generalize FP.dcmp x y = o; rcases o with _ | (_ | _ | _) <;> decide
theorem own_dg_ne_n (h : ¬ deq x y) : ifCond.holds .ne (cmpValue (FP.dcmp x y) .g) = true := by
  unfold deq at h; revert h; generalize FP.dcmp x y = o; rcases o with _ | (_ | _ | _) <;> decide
theorem own_lc_lt_p (h : i < j) : ifCond.holds .lt (if i > j then 1 else if i = j then 0 else -1 : Int32) = true := by
  simp only [gt_iff_lt, Int64.lt_iff_toInt_lt, ← Int64.toInt_inj] at h ⊢
  rcases Int.lt_trichotomy i.toInt j.toInt with q | q | q
  · rw [if_neg (by omega), if_neg (by omega)]; first | rfl | (exfalso; omega)
  · rw [if_neg (by omega), if_pos q]; first | rfl | (exfalso; omega)
  · rw [if_pos q]; first | rfl | (exfalso; omega)
theorem own_lc_lt_n (h : ¬ i < j) : ifCond.holds .lt (if i > j then 1 else if i = j then 0 else -1 : Int32) = false := by
  simp only [gt_iff_lt, Int64.lt_iff_toInt_lt, ← Int64.toInt_inj] at h ⊢
  rcases Int.lt_trichotomy i.toInt j.toInt with q | q | q
  · rw [if_neg (by omega), if_neg (by omega)]; first | rfl | (exfalso; omega)
  · rw [if_neg (by omega), if_pos q]; first | rfl | (exfalso; omega)
  · rw [if_pos q]; first | rfl | (exfalso; omega)
theorem own_lc_ge_p (h : i < j) : ifCond.holds .ge (if i > j then 1 else if i = j then 0 else -1 : Int32) = false := by
  simp only [gt_iff_lt, Int64.lt_iff_toInt_lt, ← Int64.toInt_inj] at h ⊢
  rcases Int.lt_trichotomy i.toInt j.toInt with q | q | q
  · rw [if_neg (by omega), if_neg (by omega)]; first | rfl | (exfalso; omega)
  · rw [if_neg (by omega), if_pos q]; first | rfl | (exfalso; omega)
  · rw [if_pos q]; first | rfl | (exfalso; omega)
theorem own_lc_ge_n (h : ¬ i < j) : ifCond.holds .ge (if i > j then 1 else if i = j then 0 else -1 : Int32) = true := by
  simp only [gt_iff_lt, Int64.lt_iff_toInt_lt, ← Int64.toInt_inj] at h ⊢
  rcases Int.lt_trichotomy i.toInt j.toInt with q | q | q
  · rw [if_neg (by omega), if_neg (by omega)]; first | rfl | (exfalso; omega)
  · rw [if_neg (by omega), if_pos q]; first | rfl | (exfalso; omega)
  · rw [if_pos q]; first | rfl | (exfalso; omega)
theorem own_lc_gt_p (h : j < i) : ifCond.holds .gt (if i > j then 1 else if i = j then 0 else -1 : Int32) = true := by
  simp only [gt_iff_lt, Int64.lt_iff_toInt_lt, ← Int64.toInt_inj] at h ⊢
  rcases Int.lt_trichotomy i.toInt j.toInt with q | q | q
  · rw [if_neg (by omega), if_neg (by omega)]; first | rfl | (exfalso; omega)
  · rw [if_neg (by omega), if_pos q]; first | rfl | (exfalso; omega)
  · rw [if_pos q]; first | rfl | (exfalso; omega)
theorem own_lc_gt_n (h : ¬ j < i) : ifCond.holds .gt (if i > j then 1 else if i = j then 0 else -1 : Int32) = false := by
  simp only [gt_iff_lt, Int64.lt_iff_toInt_lt, ← Int64.toInt_inj] at h ⊢
  rcases Int.lt_trichotomy i.toInt j.toInt with q | q | q
  · rw [if_neg (by omega), if_neg (by omega)]; first | rfl | (exfalso; omega)
  · rw [if_neg (by omega), if_pos q]; first | rfl | (exfalso; omega)
  · rw [if_pos q]; first | rfl | (exfalso; omega)
theorem own_lc_le_p (h : j < i) : ifCond.holds .le (if i > j then 1 else if i = j then 0 else -1 : Int32) = false := by
  simp only [gt_iff_lt, Int64.lt_iff_toInt_lt, ← Int64.toInt_inj] at h ⊢
  rcases Int.lt_trichotomy i.toInt j.toInt with q | q | q
  · rw [if_neg (by omega), if_neg (by omega)]; first | rfl | (exfalso; omega)
  · rw [if_neg (by omega), if_pos q]; first | rfl | (exfalso; omega)
  · rw [if_pos q]; first | rfl | (exfalso; omega)
theorem own_lc_le_n (h : ¬ j < i) : ifCond.holds .le (if i > j then 1 else if i = j then 0 else -1 : Int32) = true := by
  simp only [gt_iff_lt, Int64.lt_iff_toInt_lt, ← Int64.toInt_inj] at h ⊢
  rcases Int.lt_trichotomy i.toInt j.toInt with q | q | q
  · rw [if_neg (by omega), if_neg (by omega)]; first | rfl | (exfalso; omega)
  · rw [if_neg (by omega), if_pos q]; first | rfl | (exfalso; omega)
  · rw [if_pos q]; first | rfl | (exfalso; omega)
theorem own_lc_eq_p (h : i = j) : ifCond.holds .eq (if i > j then 1 else if i = j then 0 else -1 : Int32) = true := by
  simp only [gt_iff_lt, Int64.lt_iff_toInt_lt, ← Int64.toInt_inj] at h ⊢
  rcases Int.lt_trichotomy i.toInt j.toInt with q | q | q
  · rw [if_neg (by omega), if_neg (by omega)]; first | rfl | (exfalso; omega)
  · rw [if_neg (by omega), if_pos q]; first | rfl | (exfalso; omega)
  · rw [if_pos q]; first | rfl | (exfalso; omega)
theorem own_lc_eq_n (h : ¬ i = j) : ifCond.holds .eq (if i > j then 1 else if i = j then 0 else -1 : Int32) = false := by
  simp only [gt_iff_lt, Int64.lt_iff_toInt_lt, ← Int64.toInt_inj] at h ⊢
  rcases Int.lt_trichotomy i.toInt j.toInt with q | q | q
  · rw [if_neg (by omega), if_neg (by omega)]; first | rfl | (exfalso; omega)
  · rw [if_neg (by omega), if_pos q]; first | rfl | (exfalso; omega)
  · rw [if_pos q]; first | rfl | (exfalso; omega)
theorem own_lc_ne_p (h : i = j) : ifCond.holds .ne (if i > j then 1 else if i = j then 0 else -1 : Int32) = false := by
  simp only [gt_iff_lt, Int64.lt_iff_toInt_lt, ← Int64.toInt_inj] at h ⊢
  rcases Int.lt_trichotomy i.toInt j.toInt with q | q | q
  · rw [if_neg (by omega), if_neg (by omega)]; first | rfl | (exfalso; omega)
  · rw [if_neg (by omega), if_pos q]; first | rfl | (exfalso; omega)
  · rw [if_pos q]; first | rfl | (exfalso; omega)
theorem own_lc_ne_n (h : ¬ i = j) : ifCond.holds .ne (if i > j then 1 else if i = j then 0 else -1 : Int32) = true := by
  simp only [gt_iff_lt, Int64.lt_iff_toInt_lt, ← Int64.toInt_inj] at h ⊢
  rcases Int.lt_trichotomy i.toInt j.toInt with q | q | q
  · rw [if_neg (by omega), if_neg (by omega)]; first | rfl | (exfalso; omega)
  · rw [if_neg (by omega), if_pos q]; first | rfl | (exfalso; omega)
  · rw [if_pos q]; first | rfl | (exfalso; omega)
theorem own_i0_lt_p (h : a < 0) : ifCond.holds .lt a = true := (if0 _ _).trans (tlt h).1
theorem own_i0_lt_n (h : ¬ a < 0) : ifCond.holds .lt a = false := (if0 _ _).trans (flt h).1
theorem own_i0_ge_p (h : a < 0) : ifCond.holds .ge a = false := (if0 _ _).trans (tlt h).2.1
theorem own_i0_ge_n (h : ¬ a < 0) : ifCond.holds .ge a = true := (if0 _ _).trans (flt h).2.1
theorem own_i0_gt_p (h : 0 < a) : ifCond.holds .gt a = true := (if0 _ _).trans (tlt h).2.2.1
theorem own_i0_gt_n (h : ¬ 0 < a) : ifCond.holds .gt a = false := (if0 _ _).trans (flt h).2.2.1
theorem own_i0_le_p (h : 0 < a) : ifCond.holds .le a = false := (if0 _ _).trans (tlt h).2.2.2
theorem own_i0_le_n (h : ¬ 0 < a) : ifCond.holds .le a = true := (if0 _ _).trans (flt h).2.2.2
theorem own_i0_eq_p (h : a = 0) : ifCond.holds .eq a = true := (if0 _ _).trans (teq h).1
theorem own_i0_eq_n (h : ¬ a = 0) : ifCond.holds .eq a = false := (if0 _ _).trans (feq h).1
theorem own_i0_ne_p (h : a = 0) : ifCond.holds .ne a = false := (if0 _ _).trans (teq h).2
theorem own_i0_ne_n (h : ¬ a = 0) : ifCond.holds .ne a = true := (if0 _ _).trans (feq h).2
theorem own_ic_lt_p (h : a < b) : if_icmp.holds .lt a b = true := (tlt h).1
theorem own_ic_lt_n (h : ¬ a < b) : if_icmp.holds .lt a b = false := (flt h).1
theorem own_ic_ge_p (h : a < b) : if_icmp.holds .ge a b = false := (tlt h).2.1
theorem own_ic_ge_n (h : ¬ a < b) : if_icmp.holds .ge a b = true := (flt h).2.1
theorem own_ic_gt_p (h : b < a) : if_icmp.holds .gt a b = true := (tlt h).2.2.1
theorem own_ic_gt_n (h : ¬ b < a) : if_icmp.holds .gt a b = false := (flt h).2.2.1
theorem own_ic_le_p (h : b < a) : if_icmp.holds .le a b = false := (tlt h).2.2.2
theorem own_ic_le_n (h : ¬ b < a) : if_icmp.holds .le a b = true := (flt h).2.2.2
theorem own_ic_eq_p (h : a = b) : if_icmp.holds .eq a b = true := (teq h).1
theorem own_ic_eq_n (h : ¬ a = b) : if_icmp.holds .eq a b = false := (feq h).1
theorem own_ic_ne_p (h : a = b) : if_icmp.holds .ne a b = false := (teq h).2
theorem own_ic_ne_n (h : ¬ a = b) : if_icmp.holds .ne a b = true := (feq h).2
end OwnC
section OwnM
variable {p : Program} {l : Launch} {e : Env} {R : Room} {s : State} {m : MethodId} {args : Array Value} {below : List Frame} {meth : Method} {c : Code} {T : State} {locs : List Loc} {cells slots : Nat} {Z : State} {a0 : Array Value} {h h' : Heap} {B : ByteArray} {pc pc' : Nat} {L L' : Array Slot} {rest : List Value} {F : Outcome → State → Prop} {a b : Addr} {ty : FieldType} {vs : List Value} {P : ClassId → Prop} {sl : Nat} {v : Value} {ws : List Addr}
theorem own_caload (X : Stand p l e R s m args below meth c T locs cells slots) (hx : p.tables.exec = Jvm.exec) (hby : c.code = B) (hZ : Z.Warmed39 s.vm) (eT : T.heap = h) (V : Ary P Z h a .char vs) {i : Int32} (hi : ¬ i < 0) (hg : vs[i.toNatClampNeg]? = some v) (hd : decode B pc = .ok (.caload, 1)) (hp : pc + 1 = pc') (k : Gt p.tables e below F (T.setTop (mkF m pc' L (v :: rest)))) : Gt p.tables e below F (T.setTop (mkF m pc L (.int i :: .ref a :: rest))) := by
  subst hp
  obtain ⟨cl, A, -, r, t⟩ := V
  exact k.go fun t q => X.caload hx (by rw [eT]; exact A.1) (State.isArrayOf_alike hZ.alike A.2.1) A.2.2 (Ary.inb r hi (List.getElem?_eq_some_iff.mp hg).1) (Ary.at r hg) (g := mkF m pc L (.int i :: .ref a :: rest)) rfl rfl (hb hby hd) _ q
theorem own_castore (X : Stand p l e R s m args below meth c T locs cells slots) (hx : p.tables.exec = Jvm.exec) (hby : c.code = B) (hZ : Z.Warmed39 s.vm) (eT : T.heap = h) (V : Ary P Z h a .char vs) {i x : Int32} {n : Nat} (hi : ¬ i < 0) (hn : i.toNatClampNeg = n) (hl : n < vs.length) (hd : decode B pc = .ok (.castore, 1)) (hp : pc + 1 = pc') (k : ∀ T' h', Stand p l e R s m args below meth c T' (locs ++ [⟨a, n⟩]) cells slots → T'.heap = h' → Wr h h' a n (.int (nar .char x)) → Gt p.tables e below F (T'.setTop (mkF m pc' L rest))) : Gt p.tables e below F (T.setTop (mkF m pc L (.int x :: .int i :: .ref a :: rest))) := by
  subst hp hn
  obtain ⟨cl, A, -, r, t⟩ := V
  obtain ⟨T', h', X', e', W, st⟩ := stC X hx hZ eT A (Ary.inb r hi hl) (g := mkF m pc L (.int x :: .int i :: .ref a :: rest)) rfl rfl (hb hby hd)
  exact (k T' h' X' e' W).go st
theorem own_bastore (X : Stand p l e R s m args below meth c T locs cells slots) (hx : p.tables.exec = Jvm.exec) (hby : c.code = B) (hZ : Z.Warmed39 s.vm) (eT : T.heap = h) (V : Ary P Z h a .byte vs) {i x : Int32} {n : Nat} (hi : ¬ i < 0) (hn : i.toNatClampNeg = n) (hl : n < vs.length) (hd : decode B pc = .ok (.bastore, 1)) (hp : pc + 1 = pc') (k : ∀ T' h', Stand p l e R s m args below meth c T' (locs ++ [⟨a, n⟩]) cells slots → T'.heap = h' → Wr h h' a n (.int (nar .byte x)) → Gt p.tables e below F (T'.setTop (mkF m pc' L rest))) : Gt p.tables e below F (T.setTop (mkF m pc L (.int x :: .int i :: .ref a :: rest))) := by
  subst hp hn
  obtain ⟨cl, A, -, r, t⟩ := V
  obtain ⟨T', h', X', e', W, st⟩ := stB X hx hZ eT A (Ary.inb r hi hl) (g := mkF m pc L (.int x :: .int i :: .ref a :: rest)) rfl rfl (hb hby hd)
  exact (k T' h' X' e' W).go st
theorem own_baload (X : Stand p l e R s m args below meth c T locs cells slots) (hx : p.tables.exec = Jvm.exec) (hby : c.code = B) (hZ : Z.Warmed39 s.vm) (eT : T.heap = h) (V : Ary P Z h a .byte vs) {i : Int32} (hi : ¬ i < 0) (hg : vs[i.toNatClampNeg]? = some v) (hd : decode B pc = .ok (.baload, 1)) (hp : pc + 1 = pc') (k : Gt p.tables e below F (T.setTop (mkF m pc' L (v :: rest)))) : Gt p.tables e below F (T.setTop (mkF m pc L (.int i :: .ref a :: rest))) := by
  subst hp
  obtain ⟨cl, A, -, r, t⟩ := V
  exact k.go fun t q => X.baloadBytes hx (by rw [eT]; exact A.1) (State.isArrayOf_alike hZ.alike A.2.1) A.2.2 (Ary.inb r hi (List.getElem?_eq_some_iff.mp hg).1) (Ary.at r hg) (g := mkF m pc L (.int i :: .ref a :: rest)) rfl rfl (hb hby hd) _ q
theorem own_ldcF (X : Stand p l e R s m args below meth c T locs cells slots) (hx : p.tables.exec = Jvm.exec) (hby : c.code = B) (hZ : Z.Warmed39 s.vm) {own : String} {i : Nat} {w : UInt32} (hown : s.vm.findClass own = some m.cls) (wd : (Jvm.Cond.constantFloat own i w).before a0 Z = true) (hd : decode B pc = .ok (.ldc i, 2)) (hp : pc + 2 = pc') (k : Gt p.tables e below F (T.setTop (mkF m pc' L (.float w :: rest)))) : Gt p.tables e below F (T.setTop (mkF m pc L rest)) := by
  subst hp; exact k.go (X.ldcFloatC hx hown (mvT hZ wd) (g := mkF m pc L rest) rfl (hb hby hd))
theorem own_lsw (X : Stand p l e R s m args below meth c T locs cells slots) (hx : p.tables.exec = Jvm.exec) (hby : c.code = B) {df : Int} {prs : Array (Int × Int)} {len : Nat} {x : Int32} {i off : Int} (hd : decode B pc = .ok (.lookupswitch df prs, len)) (h1 : (prs.toList.zip (prs.toList.drop 1)).all (fun (a, next) => a.1 < next.1) = true) (h2 : prs.find? (·.1 == x.toInt) = some (i, off)) (h3 : 0 ≤ (pc : Int) + off) (hp : ((pc : Int) + off).toNat = pc') (k : Gt p.tables e below F (T.setTop (mkF m pc' L rest))) : Gt p.tables e below F (T.setTop (mkF m pc L (.int x :: rest))) := by
  subst hp; exact k.go fun t q => X.lookupswitchHit hx (g := mkF m pc L (.int x :: rest)) rfl rfl (hb hby hd) h1 h2 h3 t q
theorem own_instY (X : Stand p l e R s m args below meth c T locs cells slots) (hx : p.tables.exec = Jvm.exec) (hby : c.code = B) (hZ : Z.Warmed39 s.vm) {own C : String} {index : Nat} (hown : s.vm.findClass own = some m.cls) (w : (Jvm.Cond.classLink own index C).before a0 Z = true) (eT : T.heap = h) (Ff : Ins Z h a C true) (hd : decode B pc = .ok (.instanceof index, 3)) (hp : pc + 3 = pc') (k : ∀ T', Stand p l e R s m args below meth c T' locs cells slots → T'.heap = h → Gt p.tables e below F (T'.setTop (mkF m pc' L (.int 1 :: rest)))) : Gt p.tables e below F (T.setTop (mkF m pc L (.ref a :: rest))) := by
  subst hp; obtain ⟨T', X', e', st⟩ := instY X hx hZ hown w eT Ff (g := mkF m pc L (.ref a :: rest)) rfl rfl (hb hby hd); exact (k T' X' e').go st
theorem own_castY (X : Stand p l e R s m args below meth c T locs cells slots) (hx : p.tables.exec = Jvm.exec) (hby : c.code = B) (hZ : Z.Warmed39 s.vm) {own C : String} {index : Nat} (hown : s.vm.findClass own = some m.cls) (w : (Jvm.Cond.classLink own index C).before a0 Z = true) (eT : T.heap = h) (Ff : Ins Z h a C true) (hd : decode B pc = .ok (.checkcast index, 3)) (hp : pc + 3 = pc') (k : ∀ T', Stand p l e R s m args below meth c T' locs cells slots → T'.heap = h → Gt p.tables e below F (T'.setTop (mkF m pc' L (.ref a :: rest)))) : Gt p.tables e below F (T.setTop (mkF m pc L (.ref a :: rest))) := by
  subst hp; obtain ⟨T', X', e', st⟩ := castY X hx hZ hown w eT Ff (g := mkF m pc L (.ref a :: rest)) rfl rfl (hb hby hd); exact (k T' X' e').go st
theorem own_face {r n d : String} (hy : r ≠ "java/lang/invoke/MethodHandle" ∧ r ≠ "java/lang/invoke/VarHandle") : ((Jvm.Cond.interfaceMethod r r n d).onTables && (Jvm.Cond.interfaceMethod r r n d).keepsFace) = true := by
  show (true && (false || ((r == r && r != "java/lang/invoke/MethodHandle") && r != "java/lang/invoke/VarHandle"))) = true
  simp [hy.1, hy.2]
theorem own_iface (X : Stand p l e R s m args below meth c T locs cells slots) (hx : p.tables.exec = Jvm.exec) (hby : c.code = B) (hZ : Z.Warmed39 s.vm) {own : String} {index : Nat} {y : MethodName} {bytes : ByteArray} {maxL : Nat} {ret : Option FieldType} {rm : Room} {as' : Array Value} {Q : Option Value → Heap → List Loc → Prop} {C : String} {y' : MethodName} (hown : s.vm.findClass own = some m.cls) (w1 : (Jvm.Cond.methodLink own index y').before a0 Z = true) (w2 : (Jvm.Cond.declares y').before a0 Z = true) (w7 : (Jvm.Cond.interfaceMethod y'.cls y'.cls y'.name y'.desc).before a0 Z = true) (w5 : (Jvm.Cond.selects C y' y).before a0 Z = true) (w6 : (Jvm.Cond.instanceMethod y).before a0 Z = true) (w8 : (Jvm.Cond.publicMethod y).before a0 Z = true) (w9 : (Jvm.Cond.unhidden C y'.name y'.desc).before a0 Z = true) (wc : (Jvm.Cond.castable C y'.cls).before a0 Z = true) (w3 : (Jvm.Cond.code y bytes maxL ret).before a0 Z = true) (w4 : (Jvm.Cond.initialized y.cls).before a0 Z = true) (hy : y'.cls ≠ "java/lang/invoke/MethodHandle" ∧ y'.cls ≠ "java/lang/invoke/VarHandle") (hM : MetFree l y (head1 [Jvm.Cond.code y bytes maxL ret] rm) (fun a U => a = as' ∧ Z.Warmed39 U.vm ∧ U.heap = h) (fun _ _ _ _ _ => True) (fun _ U o U' => ∃ v L, o = .returned v ∧ Q v U'.heap L ∧ FrameEnd U o U' L rm.cells rm.slots)) (eT : T.heap = h) (hsize : L.size = c.maxLocals) {a : Addr} (E : Exa Z h a C) {argsL : List Value} (has : as' = (.ref a :: argsL).toArray) (hlen : ∀ sig, parseMethodDescriptor y'.desc = some sig → argsL.length = sig.parameters.length) {ct : Nat} {st : List Value} (hst : st = argsL.reverse ++ .ref a :: rest) (hd : decode B pc = .ok (.invokeinterface index ct, 5)) (hp : pc + 5 = pc') (hf : rm.frames + 1 ≤ R.frames) {W : Nat} (hW : (rest.map fun v => v.category).sum ≤ W) (hl : W + (maxL + 11) + rm.locals ≤ R.locals) (hc : cells + rm.cells ≤ R.cells) (hs : slots + rm.slots ≤ R.slots) (k : ∀ T' h' L' v, Stand p l e R s m args below meth c T' (locs ++ L') (cells + rm.cells) (slots + rm.slots) → T'.heap = h' → Q v h' L' → Gt p.tables e below F (T'.setTop (mkF m pc' L (v.toList ++ rest)))) : Gt p.tables e below F (T.setTop (mkF m pc L st)) := by
  subst hp has hst
  obtain ⟨cq, kq, qa, qb, qc⟩ := isOf hZ eT E
  obtain ⟨v, vm1, ⟨T', L1, k1, n1⟩, -, X', ⟨Lc, hQ, l1, l2, l3⟩, st⟩ := X.interfaceBack hx (xi := y') (y := y) hown (mvT hZ w1) (mvT hZ w2) (mvT hZ w7 (own_face hy)) (mvT hZ w5) (mvT hZ w6) (mvT hZ w8) (mvT hZ w9) (mvT hZ wc) hy (backOf (W := W) hM hZ w3 w4 hf hl) qa qb qc (g := mkF m pc L (argsL.reverse ++ .ref a :: rest)) rfl hsize (Steps.refl _) (argsL := argsL) (rest := rest) hlen rfl (by show 2 * 0 + _ ≤ _; rw [Nat.mul_zero, Nat.zero_add]; exact hW) (hb hby hd) (fun _ _ => ⟨rfl, eT, hc, hs⟩)
  dsimp only [Pt.U, Pt.locs, Pt.cells, Pt.slots] at X' l1 l2 l3 st hQ
  subst l1 l2 l3
  exact (k T' _ Lc v X' rfl hQ).go fun t q => st.trans q
theorem own_retB (X : Stand p l e R s m args below meth c T locs cells slots) (hx : p.tables.exec = Jvm.exec) (hby : c.code = B) (hlocks : meth.locks = false) {Q : Option Value → Heap → List Loc → Prop} {kc ks : Nat} (hret : meth.sig.returnType = some .byte) {z : Int32} (hz : narrow .byte (.int z) = .int z) (hd : decode B pc = .ok (.ireturn, 1)) (hc : cells ≤ kc) (hs : slots ≤ ks) (eT : T.heap = h) (hq : Q (some (.int z)) h locs) : Gt p.tables e below (fun o U' => ∃ v Lc, o = .returned v ∧ Q v U'.heap Lc ∧ FrameEnd s o U' Lc kc ks) (T.setTop (mkF m pc L (.int z :: rest))) := by
  subst eT
  obtain ⟨fs, hr, hrun, hended, hW, hsame⟩ := X.leave (v := (some (.int z))) (fun h => by rw [hret] at h; cases h) hlocks
  exact ⟨_, _, retOut X hx hret hz (Or.inl ⟨rfl, Or.inr (Or.inr (Or.inl rfl)), z, rfl⟩) (hb hby hd) hr, hrun, hended, _, _, rfl, hq, ⟨_, rfl⟩, hW, hsame.mono hc hs⟩
theorem own_skn {C n d : String} {w : Value} {ws : List Addr} (Ff : Sta Z h C n d w) (K : Keep h h' ws) (q : ∀ x ∈ ws, ∃ D, Exa Z h x D) : Sta Z h' C n d w := by
  obtain ⟨cf, i, k, f, st, cell, h1, h2, h3, h4, h5, h6, h7⟩ := Ff
  refine ⟨cf, i, k, f, st, cell, h1, h2, h3, h4, K.2.1 st cell h5 (fun hm => ?_), h6, h7⟩
  obtain ⟨D, cell', k', e1, -, -, e4, -⟩ := q st hm
  cases h5.symm.trans e1
  rw [h6] at e4; cases e4
theorem own_sk0 : ∀ x ∈ ([] : List Addr), ∃ D, Exa Z h x D := fun _ q => nomatch q
theorem own_skS {x : Addr} {C : String} {ws : List Addr} (E : Exa Z h x C) (r : ∀ y ∈ ws, ∃ D, Exa Z h y D) : ∀ y ∈ x :: ws, ∃ D, Exa Z h y D := fun y q => by
  rcases List.mem_cons.mp q with rfl | q
  · exact ⟨C, E⟩
  · exact r y q
theorem own_ldcS (X : Stand p l e R s m args below meth c T locs cells slots) (hx : p.tables.exec = Jvm.exec) (hby : c.code = B) (hZ : Z.Warmed39 s.vm) {own text : String} {index : Nat} (hown : s.vm.findClass own = some m.cls) (w : (Jvm.Cond.stringLink own index text).before a0 Z = true) (wS : ∀ d ∈ Bundle.stringAtoms, d.before a0 Z = true) (eT : T.heap = h) (hd : decode B pc = .ok (.ldc index, 2)) (hp : pc + 2 = pc') {n : Nat} (hn : 4 * text.toList.length ≤ n) (hbig : n ≤ 536870912) (hc : cells + 2 ≤ R.cells) (hl : slots + (n + 4) ≤ R.slots)
    (k : ∀ (a : Addr) (T' : State) (h' : Heap) (k1 : Nat), Stand p l e R (s.setVm T'.vm) m args below meth c T' locs (cells + 2) (slots + (n + 4)) → T'.heap = h' → Ext h h' → s.Since T'.vm k1 → k1 ≤ h'.size → Z.Warmed39 (s.setVm T'.vm).vm → (s.setVm T'.vm).vm.findClass own = some m.cls → Gt p.tables e below F (T'.setTop (mkF m pc' L (.ref a :: rest)))) : Gt p.tables e below F (T.setTop (mkF m pc L rest)) := by
  subst hp
  have X0 : Stand p l e R (s.setVm s.vm) m args below meth c T locs cells slots := X
  obtain ⟨a, T', h', k1, X', e', E', S', q', Z', o', st⟩ := ldcS X0 hx hZ hown w wS eT ((State.WarmedH.refl s).since 0) (Nat.zero_le _) (g := mkF m pc L rest) rfl (hb hby hd) hn hbig hc hl
  exact (k a T' h' k1 X' e' E' S' q' Z' o').go st
theorem own_retZW {vm1 : Vm} {k1 : Nat} (X : Stand p l e R (s.setVm vm1) m args below meth c T locs cells slots) (hx : p.tables.exec = Jvm.exec) (hby : c.code = B) (hlocks : meth.locks = false) {Q : Option Value → Heap → List Loc → Prop} {kc ks : Nat} (hret : meth.sig.returnType = some .boolean) {z : Int32} (hz : z = 0 ∨ z = 1) (hd : decode B pc = .ok (.ireturn, 1)) (hc : cells ≤ kc) (hs : slots ≤ ks) (eT : T.heap = h) (hS : s.Since vm1 k1) (hk : k1 ≤ h.size) (hq : Q (some (.int z)) h locs) : Gt p.tables e below (fun o U' => ∃ v Lc, o = .returned v ∧ Q v U'.heap Lc ∧ ReturnedEndW s o U' Lc kc ks) (T.setTop (mkF m pc L (.int z :: rest))) := by
  subst eT
  obtain ⟨fs, hr, hrun, hended, hE⟩ := X.leaveW hS hk (v := (some (.int z))) (fun h => by rw [hret] at h; cases h) hlocks
  exact ⟨_, _, retOut X hx hret (by rcases hz with rfl | rfl <;> rfl) (Or.inl ⟨rfl, Or.inr (Or.inl rfl), z, rfl⟩) (hb hby hd) hr, hrun, hended, _, _, rfl, hq, hE.1, hE.2.1, hE.2.2.1, hE.2.2.2.mono hc hs⟩
theorem own_cloneI (X : Stand p l e R s m args below meth c T locs cells slots) (hx : p.tables.exec = Jvm.exec) (hby : c.code = B) (hZ : Z.Warmed39 s.vm) {own ad : String} {index : Nat} (hown : s.vm.findClass own = some m.cls)
    (w1 : (Jvm.Cond.methodLink own index ⟨ad, "clone", "()Ljava/lang/Object;"⟩).before a0 Z = true) (w2 : (Jvm.Cond.sameMethod ad "java/lang/Object" "clone" "()Ljava/lang/Object;").before a0 Z = true) (w3 : (Jvm.Cond.native ⟨"java/lang/Object", "clone", "()Ljava/lang/Object;"⟩).before a0 Z = true)
    (w4 : (Jvm.Cond.instanceMethod ⟨"java/lang/Object", "clone", "()Ljava/lang/Object;"⟩).before a0 Z = true) (w5 : (Jvm.Cond.selects ad ⟨ad, "clone", "()Ljava/lang/Object;"⟩ ⟨"java/lang/Object", "clone", "()Ljava/lang/Object;"⟩).before a0 Z = true) (w6 : (Jvm.Cond.castable ad "java/lang/Cloneable").before a0 Z = true)
    (eT : T.heap = h) (V : Ary tr Z h a .int vs) (E : Exa Z h a ad) {z : Int32} (hz : z.toNatClampNeg = vs.length) (hz0 : ¬ z < 0) (hfit : ∀ i, i < vs.length → fits .int (vs.getD i (.int 0)) = true) (hsize : L.size = c.maxLocals) (hd : decode B pc = .ok (.invokevirtual index, 3)) (hp : pc + 3 = pc')
    (hf : 1 ≤ R.frames) {W cap : Nat} (hW : (rest.map fun v => v.category).sum ≤ W) (hl : W + 14 ≤ R.locals) (hcap : vs.length ≤ cap) (hc : cells + 1 ≤ R.cells) (hsl : slots + cap ≤ R.slots)
    (k : ∀ T' h' b, Stand p l e R s m args below meth c T' locs (cells + 1) (slots + cap) → T'.heap = h' → Ext h h' → h.size = b → Exa Z h' b ad → Ary tr Z h' b .int vs → Gt p.tables e below F (T'.setTop (mkF m pc' L (.ref b :: rest)))) : Gt p.tables e below F (T.setTop (mkF m pc L (.ref a :: rest))) := by
  subst hp
  obtain ⟨cl, A, -, r, t⟩ := V
  have sz := Ary.size r
  have F0 : Arh Z h a cl.cls .int z [] vs (.int 0) := by
    refine ⟨cl, A, rfl, by rw [sz, hz], hz0, fun i hi => ?_, fun i hi => hfit i (sz ▸ hi)⟩
    refine Ary.at r ?_
    show vs[i]? = some (vs.getD i (.int 0))
    rw [List.getD_eq_getElem?_getD, List.getElem?_eq_getElem (sz ▸ hi)]; rfl
  obtain ⟨T', h', X', e', E', F1, Ex, st⟩ := cloneH X hx hZ hown w1 w2 w3 w4 w5 w6 eT F0 E (g := mkF m pc L (.ref a :: rest)) rfl hsize rfl (hb hby hd) hf (W := W) (cap := cap) (by show 2 * 0 + _ ≤ _; rw [Nat.mul_zero, Nat.zero_add]; exact hW) hl (by rw [hz]; exact hcap) hc hsl
  refine (k T' h' _ X' e' E' rfl Ex ?_).go st
  obtain ⟨c2, A2, -, s2, -, g2, -⟩ := F1
  rw [hz] at s2
  refine ⟨c2, A2, trivial, List.ext_getElem? fun i => ?_, t⟩
  by_cases hi : i < vs.length
  · rw [Array.getElem?_toList, g2 i (by rw [s2]; exact hi), List.getElem?_eq_getElem hi]
    show some (vs.getD i (.int 0)) = _
    rw [List.getD_eq_getElem?_getD, List.getElem?_eq_getElem hi]; rfl
  · rw [List.getElem?_eq_none (by rw [Array.length_toList, s2]; omega), List.getElem?_eq_none (by omega)]
theorem own_el0 {C : String} : ∀ v ∈ ([] : List Value), ∃ x, v = .ref x ∧ Exa Z h x C := fun _ q => nomatch q
theorem own_elS {x : Addr} {C : String} {us : List Value} (E : Exa Z h x C) (r : ∀ v ∈ us, ∃ x, v = .ref x ∧ Exa Z h x C) : ∀ v ∈ (.ref x :: us), ∃ x, v = .ref x ∧ Exa Z h x C := fun v q => by
  rcases List.mem_cons.mp q with rfl | q
  · exact ⟨x, rfl, E⟩
  · exact r v q
theorem own_stol {cl : Cell} {C : String} (A : Arr Z h b cl (.object C)) (O : Ovr Z cl.cls C) : ∀ us : List Value, (∀ v ∈ us, ∃ x, v = .ref x ∧ Exa Z h x C) → StoL Z h b us
  | [], _ => trivial
  | v :: r, q => by
    obtain ⟨x, e, E⟩ := q v (List.mem_cons_self ..)
    exact ⟨e ▸ Sto.of A O (Ins.self E), own_stol A O r fun w k => q w (List.mem_cons_of_mem _ k)⟩
theorem own_cpR (X : Stand p l e R s m args below meth c T locs cells slots) (hx : p.tables.exec = Jvm.exec) (hby : c.code = B) (hZ : Z.Warmed39 s.vm) {own : String} {index : Nat} (hown : s.vm.findClass own = some m.cls) (w1 : (Jvm.Cond.methodLink own index Jvm.Stand.acN).before a0 Z = true) (w2 : (Jvm.Cond.native Jvm.Stand.acN).before a0 Z = true) (w3 : (Jvm.Cond.static Jvm.Stand.acN).before a0 Z = true) (w4 : (Jvm.Cond.initialized "java/lang/System").before a0 Z = true) (eT : T.heap = h)
    {C : String} (V : Ary (ovO Z C) Z h b (.object C) vs) {z sp dp nn : Int32} {S D N : Nat} (hz : z.toNatClampNeg = vs.length) (hz0 : ¬ z < 0) (h1 : ¬ sp < 0) (h2 : ¬ dp < 0) (h3 : ¬ nn < 0) (hS : sp.toNatClampNeg = S) (hD : dp.toNatClampNeg = D) (hN : nn.toNatClampNeg = N) (h4 : S + N ≤ vs.length) (h5 : D + N ≤ vs.length)
    {us us' : List Value} (hus : us = (List.range N).map fun i => vs.getD (S + i) .null) (hfit : ∀ i, i < vs.length → fits (.object C) (vs.getD i .null) = true) (hel : ∀ v ∈ us, ∃ x, v = .ref x ∧ Exa Z h x C) (hr : vs.take D ++ us ++ vs.drop (D + N) = us') (hlen : us'.length = vs.length) {n0 : Nat} (Nf : Fr n0 locs) (ge : n0 ≤ b)
    (hsize : L.size = c.maxLocals) (hd : decode B pc = .ok (.invokestatic index, 3)) (hp : pc + 3 = pc') (hf : 1 ≤ R.frames) {W : Nat} (hW : (rest.map fun v => v.category).sum ≤ W) (hlo : W + (nativeFrameWords "java/lang/System" "arraycopy" 5 + 11) ≤ R.locals)
    (k : ∀ T' h' L', Stand p l e R s m args below meth c T' L' cells slots → T'.heap = h' → Fr n0 L' → Keep h h' [b] → Ary (ovO Z C) Z h' b (.object C) us' → Gt p.tables e below F (T'.setTop (mkF m pc' L rest))) : Gt p.tables e below F (T.setTop (mkF m pc L (.int nn :: .int dp :: .ref b :: .int sp :: .ref b :: rest))) := by
  subst hp hS hD hN
  obtain ⟨cl, A, O, r, t⟩ := V
  have sz := Ary.size r
  have F0 : Arv Z h b cl.cls (.object C) z vs .null := by
    refine ⟨cl, A, rfl, by rw [sz, hz], hz0, fun i hi => ?_, fun i hi => hfit i (sz ▸ hi)⟩
    refine Ary.at r ?_
    rw [List.getD_eq_getElem?_getD, List.getElem?_eq_getElem (sz ▸ hi)]; rfl
  obtain ⟨T', h', L', X', e', N', K', F1, st⟩ := cpA X hx hZ hown w1 w2 w3 w4 eT F0 F0 (Or.inr ⟨rfl, rfl, own_stol A O us hel⟩) h1 h2 h3 (by rw [hz]; exact h4) (by rw [hz]; exact h5) hus h5 Nf ge (g := mkF m pc L (.int nn :: .int dp :: .ref b :: .int sp :: .ref b :: rest)) rfl hsize (rest := rest) rfl (hb hby hd) hf (W := W) (by show 2 * 0 + _ ≤ _; rw [Nat.mul_zero, Nat.zero_add]; exact hW) hlo
  refine (k T' h' L' X' e' N' K' ?_).go st
  rw [hr] at F1
  obtain ⟨c2, A2, q2, s2, -, g2, -⟩ := F1
  rw [hz] at s2
  refine ⟨c2, A2, by rw [q2]; exact O, List.ext_getElem? fun i => ?_, by rw [hlen]; exact t⟩
  by_cases hi : i < vs.length
  · rw [Array.getElem?_toList, g2 i (by rw [s2]; exact hi), List.getD_eq_getElem?_getD, List.getElem?_eq_getElem (by rw [hlen]; exact hi)]; rfl
  · rw [List.getElem?_eq_none (by rw [Array.length_toList, s2]; omega), List.getElem?_eq_none (by omega)]
theorem own_weaken {tb : Tables} {g : JFrame} {x y : State} (h : Steps tb e (.java g :: below) x y) : Steps tb e below x y := by
  obtain ⟨n, hn, w⟩ := h
  refine ⟨n, hn, fun k hk => ?_⟩
  obtain ⟨ab, q1, q2, q3⟩ := w k hk
  refine ⟨ab ++ [.java g], by rw [q1, List.append_assoc]; rfl, by simp, fun z q => ?_⟩
  cases ab with
  | nil => exact q2 rfl
  | cons u r => simp at q
/-- what a body does, said of every place where it stands entered: no word on its class's state is asked -/
def Raw (l : Launch) (y : MethodName) (bytes : ByteArray) (maxL : Nat) (ret : Option FieldType) (rm : Room) (as' : Array Value) (Z : State) (h : Heap) (Q : Option Value → Heap → List Loc → Prop) : Prop :=
  ∀ (p : Program) (e : Env) (s : State) (m : MethodId) (below : List Frame) (meth : Method) (c : Code) (s₁ : State), p.tables.exec = Jvm.exec → Stand p l e rm s m as' below meth c s₁ [] 0 0 → c.code = bytes → c.maxLocals = maxL → s.vm.findClass y.cls = some m.cls → meth.locks = false → meth.sig.returnType = ret → Z.Warmed39 s.vm → s₁.heap = h →
    Gt p.tables e below (fun o U' => ∃ v L, o = .returned v ∧ Q v U'.heap L ∧ FrameEnd s o U' L rm.cells rm.slots) (s₁.setTop (entryFrame m as' maxL))
theorem own_backRaw {y : MethodName} {bytes : ByteArray} {maxL : Nat} {ret : Option FieldType} {rm : Room} {len W : Nat} {as' : Array Value} {Q : Option Value → Heap → List Loc → Prop} (hR : Raw l y bytes maxL ret rm as' Z h Q) (hx : p.tables.exec = Jvm.exec) (hpl : plainFor y = true)
    (hZ : Z.Warmed39 s.vm) (wc : (Jvm.Cond.code y bytes maxL ret).before a0 Z = true) (hf : rm.frames + 1 ≤ R.frames) (hl : W + (maxL + 11) + rm.locals ≤ R.locals) :
    Back l R p e below s args y len W (fun A a => a = as' ∧ A.U.heap = h ∧ A.cells + rm.cells ≤ R.cells ∧ A.slots + rm.slots ≤ R.slots) (fun A _ v B => ∃ L, Q v B.U.heap L ∧ B.locs = A.locs ++ L ∧ B.cells = A.cells + rm.cells ∧ B.slots = A.slots + rm.slots) := by
  intro m meth c A g ig mk a X hg hsize hdg hW hn hp
  obtain ⟨rfl, eH, hc, hs⟩ := hp
  have hU : Z.Warmed39 A.U.vm := wtrans hZ X.warmed
  obtain ⟨methY, cY, hmY, hcY, hbY, hlY, hrY, hkY, -⟩ := Cond.code_spec hn (mv (args := #[]) hU wc)
  obtain ⟨Y, hin⟩ := X.into hg hsize hdg a (R' := rm) hmY hcY hkY (State.plainMethod.of_named (s := A.U) hpl hn hmY) hf (by rw [hlY]; omega) hc hs
  obtain ⟨s₂, o, hst, hrun, hend, v, L, rfl, hq, hFE⟩ := hR p e (A.U.calling g mk a) mk (.java g :: below) methY cY _ hx Y hbY hlY (findClass_of_methodNamed hn) hkY hrY hU eH
  obtain ⟨-, hWe, hsame⟩ := hFE
  obtain ⟨T', X', hW', -, ht⟩ := X.outOf hg hdg hend hWe hsame
  refine ⟨v, ⟨T', A.locs ++ L, A.cells + rm.cells, A.slots + rm.slots⟩, X', ⟨L, ?_, rfl, rfl, rfl⟩, ?_⟩
  · have e1 : s₂.heap = T'.heap := by rw [ht]; rfl
    rw [e1] at hq; exact hq
  · rw [hin []]
    show Steps p.tables e below _ (T'.setTop { g with pc := g.pc + len, stack := v.toList ++ g.stack })
    rw [← ht]
    rw [← hlY] at hst
    exact own_weaken hst
theorem own_virtD (X : Stand p l e R s m args below meth c T locs cells slots) (hx : p.tables.exec = Jvm.exec) (hby : c.code = B) (hZ : Z.Warmed39 s.vm) {own : String} {index : Nat} {y : MethodName} {bytes : ByteArray} {maxL : Nat} {ret : Option FieldType} {rm : Room} {as' : Array Value} {Q : Option Value → Heap → List Loc → Prop} {C : String} {y' : MethodName} (hown : s.vm.findClass own = some m.cls) (w1 : (Jvm.Cond.methodLink own index y').before a0 Z = true) (w2 : (Jvm.Cond.sameMethod y'.cls y.cls y'.name y'.desc).before a0 Z = true) (w7 : (Jvm.Cond.declares ⟨y.cls, y'.name, y'.desc⟩).before a0 Z = true) (w5 : (Jvm.Cond.landsInDefault C y' y).before a0 Z = true) (w6 : (Jvm.Cond.instanceMethod y).before a0 Z = true) (w3 : (Jvm.Cond.code y bytes maxL ret).before a0 Z = true) (hpl : plainFor y = true) (hy : y.cls ≠ "java/lang/invoke/MethodHandle" ∧ y.cls ≠ "java/lang/invoke/VarHandle") (hM : Raw l y bytes maxL ret rm as' Z h Q) (eT : T.heap = h) (hsize : L.size = c.maxLocals) {a : Addr} (E : Exa Z h a C) {argsL : List Value} (has : as' = (.ref a :: argsL).toArray) (hlen : ∀ sig, parseMethodDescriptor y'.desc = some sig → argsL.length = sig.parameters.length) {st : List Value} (hst : st = argsL.reverse ++ .ref a :: rest) (hd : decode B pc = .ok (.invokevirtual index, 3)) (hp : pc + 3 = pc') (hf : rm.frames + 1 ≤ R.frames) {W : Nat} (hW : (rest.map fun v => v.category).sum ≤ W) (hl : W + (maxL + 11) + rm.locals ≤ R.locals) (hc : cells + rm.cells ≤ R.cells) (hs : slots + rm.slots ≤ R.slots) (k : ∀ T' h' L' v, Stand p l e R s m args below meth c T' (locs ++ L') (cells + rm.cells) (slots + rm.slots) → T'.heap = h' → Q v h' L' → Gt p.tables e below F (T'.setTop (mkF m pc' L (v.toList ++ rest)))) : Gt p.tables e below F (T.setTop (mkF m pc L st)) := by
  subst hp has hst
  obtain ⟨cq, kq, qa, qb, qc⟩ := isOf hZ eT E
  obtain ⟨v, vm1, ⟨T', L1, k1, n1⟩, -, X', ⟨Lc, hQ, l1, l2, l3⟩, st⟩ := X.virtualBackUpD hx (x := y') (y := y) (owner := y.cls) hown (mvT hZ w1) (mvT hZ w2) (mvT hZ w7) hy (mvD hZ w5) (mvT hZ w6) (own_backRaw (W := W) hM hx hpl hZ w3 hf hl) qa qc (g := mkF m pc L (argsL.reverse ++ .ref a :: rest)) rfl hsize (Steps.refl _) (argsL := argsL) (rest := rest) hlen rfl (by show 2 * 0 + _ ≤ _; rw [Nat.mul_zero, Nat.zero_add]; exact hW) (hb hby hd) (fun _ _ => ⟨rfl, eT, hc, hs⟩)
  dsimp only [Pt.U, Pt.locs, Pt.cells, Pt.slots] at X' l1 l2 l3 st hQ
  subst l1 l2 l3
  exact (k T' _ Lc v X' rfl hQ).go fun t q => st.trans q
end OwnM
section OwnF
open Jvm.FP.Core (val64 zval zmag b64 one64 DFin DZero good_b64 val64_fits inUnits signed sgn)
/-- the value in units of 2^-1074 -/
abbrev zv (x : UInt64) : Int := zval b64 (val64 x)
def uu : Int := ((one64 : Nat) : Int)
theorem uu_pos : 0 < uu := by have := FP.Core.one64_pos; show (0 : Int) < ((one64 : Nat) : Int); omega
theorem own_add_le {x y V : UInt64} (hx : DFin x) (hy : DFin y) (hV : val64 V ≠ .nan) (h : zv x + zv y ≤ zv V) : zv (FP.dadd x y) ≤ zv V := by
  show zval b64 (val64 (FP.Core.dadd x y)) ≤ _
  rw [FP.Core.val64_dadd]; exact FP.Core.sum_le good_b64 hx hy (val64_fits x) (val64_fits y) (val64_fits V) hV h
theorem own_add_ge {x y V : UInt64} (hx : DFin x) (hy : DFin y) (hV : val64 V ≠ .nan) (h : zv V ≤ zv x + zv y) : zv V ≤ zv (FP.dadd x y) := by
  show _ ≤ zval b64 (val64 (FP.Core.dadd x y))
  rw [FP.Core.val64_dadd]; exact FP.Core.sum_ge good_b64 hx hy (val64_fits x) (val64_fits y) (val64_fits V) hV h
theorem own_neg_fin {y : UInt64} (hy : DFin y) : ∃ s c q, FP.Core.negate (val64 y) = .fin s c q := by
  obtain ⟨s, c, q, h⟩ := hy; exact ⟨!s, c, q, by rw [h]; rfl⟩
theorem own_sub_le {x y V : UInt64} (hx : DFin x) (hy : DFin y) (hV : val64 V ≠ .nan) (h : zv x - zv y ≤ zv V) : zv (FP.dsub x y) ≤ zv V := by
  show zval b64 (val64 (FP.Core.dsub x y)) ≤ _
  rw [FP.Core.val64_dsub]; exact FP.Core.sum_le good_b64 hx (own_neg_fin hy) (val64_fits x) (FP.Core.negate_fits (val64_fits y)) (val64_fits V) hV (by rw [FP.Core.zval_negate]; unfold zv at h; omega)
theorem own_sub_ge {x y V : UInt64} (hx : DFin x) (hy : DFin y) (hV : val64 V ≠ .nan) (h : zv V ≤ zv x - zv y) : zv V ≤ zv (FP.dsub x y) := by
  show _ ≤ zval b64 (val64 (FP.Core.dsub x y))
  rw [FP.Core.val64_dsub]; exact FP.Core.sum_ge good_b64 hx (own_neg_fin hy) (val64_fits x) (FP.Core.negate_fits (val64_fits y)) (val64_fits V) hV (by rw [FP.Core.zval_negate]; unfold zv at h; omega)
theorem own_signed_mul (s t : Bool) (m n : Nat) : signed (s != t) (m * n) = signed s m * signed t n := by
  cases s <;> cases t <;> simp [signed, Int.neg_mul, Int.mul_neg]
theorem own_qm : b64.qmin = -1074 := by decide
theorem own_pow_e0 : ((2 ^ (b64.qmin - 2 * b64.qmin).toNat : Nat) : Int) = uu := by
  show _ = ((one64 : Nat) : Int); rw [← FP.Core.pow_qmin64]; congr 3
theorem own_mul_le {x y V : UInt64} (hx : DFin x) (hy : DFin y) (hV : val64 V ≠ .nan) (h : zv x * zv y ≤ zv V * uu) : zv (FP.dmul x y) ≤ zv V := by
  show zval b64 (val64 (FP.Core.dmul x y)) ≤ _
  obtain ⟨s, c, q, ex⟩ := hx
  obtain ⟨t, d, r, ey⟩ := hy
  have fx := val64_fits x; have fy := val64_fits y
  rw [ex] at fx; rw [ey] at fy
  unfold zv at h
  rw [ex, ey] at h
  rw [FP.Core.val64_dmul, ex, ey]
  obtain ⟨e1, e2, e3⟩ := FP.Core.product_units fx fy
  rw [e1]
  refine FP.Core.zval_round_le good_b64 (val64_fits V) hV (e0 := 2 * b64.qmin) (by rw [own_qm]; decide) e2 ?_
  rw [e3, own_pow_e0, own_signed_mul]; exact h
theorem own_mul_ge {x y V : UInt64} (hx : DFin x) (hy : DFin y) (hV : val64 V ≠ .nan) (h : zv V * uu ≤ zv x * zv y) : zv V ≤ zv (FP.dmul x y) := by
  show _ ≤ zval b64 (val64 (FP.Core.dmul x y))
  obtain ⟨s, c, q, ex⟩ := hx
  obtain ⟨t, d, r, ey⟩ := hy
  have fx := val64_fits x; have fy := val64_fits y
  rw [ex] at fx; rw [ey] at fy
  unfold zv at h
  rw [ex, ey] at h
  rw [FP.Core.val64_dmul, ex, ey]
  obtain ⟨e1, e2, e3⟩ := FP.Core.product_units fx fy
  rw [e1]
  refine FP.Core.zval_round_ge good_b64 (val64_fits V) hV (e0 := 2 * b64.qmin) (by rw [own_qm]; decide) e2 ?_
  rw [e3, own_pow_e0, own_signed_mul]; exact h
/-- a quotient's two sides in whole units -/
theorem own_div_units {c d : Nat} {q r : Int} (hq : -1074 ≤ q) (hr : -1074 ≤ r) (hr2 : r ≤ 971) (v : Nat) :
    ∃ k : Nat, 0 < k ∧ inUnits c (q - r) (-2148) * k = inUnits c q (-1074) * one64 * 2 ^ 1074 ∧ (v * 2 ^ (1074 : Nat) * d) * k = v * inUnits d r (-1074) * 2 ^ 1074 := by
  refine ⟨2 ^ (r + 1074).toNat, Nat.two_pow_pos _, ?_, ?_⟩
  · unfold inUnits one64
    rw [Nat.mul_assoc, ← Nat.pow_add, Nat.mul_assoc, Nat.mul_assoc, ← Nat.pow_add, ← Nat.pow_add, show (q - r - -2148).toNat + (r + 1074).toNat = (q - -1074).toNat + (1074 + 1074) by omega]
  · unfold inUnits
    rw [show (r - -1074).toNat = (r + 1074).toNat by omega]
    generalize 2 ^ (1074 : Nat) = w
    generalize 2 ^ (r + 1074).toNat = u
    simp only [Nat.mul_comm, Nat.mul_left_comm, Nat.mul_assoc]
theorem own_div_mag_le {x y V : UInt64} (hx : DFin x) (hy : DFin y) (hz : ¬ DZero y) (hV : val64 V ≠ .nan) (h : zmag b64 (val64 x) * one64 ≤ zmag b64 (val64 V) * zmag b64 (val64 y)) : zmag b64 (val64 (FP.ddiv x y)) ≤ zmag b64 (val64 V) := by
  show zmag b64 (val64 (FP.Core.ddiv x y)) ≤ _
  obtain ⟨s, c, q, ex⟩ := hx
  obtain ⟨t, d, r, ey⟩ := hy
  have fx := val64_fits x; have fy := val64_fits y
  rw [ex] at fx; rw [ey] at fy
  have hd : d ≠ 0 := fun e => hz ⟨t, r, by rw [ey, e]⟩
  rw [FP.Core.val64_ddiv, ex, ey]
  rw [ex, ey] at h
  show zmag b64 (if d = 0 then _ else FP.Core.roundRatio b64 (s != t) c d (q - r)) ≤ _
  rw [if_neg hd]
  have b1 : -1074 ≤ q := own_qm ▸ fx.2.1
  have b2 : -1074 ≤ r := own_qm ▸ fy.2.1
  have b3 : r ≤ 971 := fy.2.2.1
  refine FP.Core.zmag_roundRatio_le good_b64 (Nat.pos_of_ne_zero hd) (val64_fits V) hV (e0 := -2148) (by rw [own_qm]; decide) (by omega) ?_
  obtain ⟨k, hk, k1, k2⟩ := own_div_units (c := c) (d := d) b1 b2 b3 (zmag b64 (val64 V))
  rw [show (b64.qmin - -2148).toNat = 1074 by rw [own_qm]; decide]
  refine Nat.le_of_mul_le_mul_right ?_ hk
  rw [k1, k2]
  exact Nat.mul_le_mul_right _ (by have := h; simp only [zmag, own_qm] at this; exact this)
theorem own_div_mag_ge {x y V : UInt64} (hx : DFin x) (hy : DFin y) (hz : ¬ DZero y) (h : zmag b64 (val64 V) * zmag b64 (val64 y) ≤ zmag b64 (val64 x) * one64) : zmag b64 (val64 V) ≤ zmag b64 (val64 (FP.ddiv x y)) := by
  show _ ≤ zmag b64 (val64 (FP.Core.ddiv x y))
  obtain ⟨s, c, q, ex⟩ := hx
  obtain ⟨t, d, r, ey⟩ := hy
  have fx := val64_fits x; have fy := val64_fits y
  rw [ex] at fx; rw [ey] at fy
  have hd : d ≠ 0 := fun e => hz ⟨t, r, by rw [ey, e]⟩
  rw [FP.Core.val64_ddiv, ex, ey]
  rw [ex, ey] at h
  show _ ≤ zmag b64 (if d = 0 then _ else FP.Core.roundRatio b64 (s != t) c d (q - r))
  rw [if_neg hd]
  have b1 : -1074 ≤ q := own_qm ▸ fx.2.1
  have b2 : -1074 ≤ r := own_qm ▸ fy.2.1
  have b3 : r ≤ 971 := fy.2.2.1
  refine FP.Core.zmag_roundRatio_ge good_b64 (Nat.pos_of_ne_zero hd) (val64_fits V) (e0 := -2148) (by rw [own_qm]; decide) (by omega) ?_
  obtain ⟨k, hk, k1, k2⟩ := own_div_units (c := c) (d := d) b1 b2 b3 (zmag b64 (val64 V))
  rw [show (b64.qmin - -2148).toNat = 1074 by rw [own_qm]; decide]
  refine Nat.le_of_mul_le_mul_right ?_ hk
  rw [k1, k2]
  exact Nat.mul_le_mul_right _ (by have := h; simp only [zmag, own_qm] at this; exact this)
theorem own_sgn_div {x y : UInt64} (hx : DFin x) (hy : DFin y) (hz : ¬ DZero y) : sgn (val64 (FP.ddiv x y)) = (sgn (val64 x) != sgn (val64 y)) := by
  show sgn (val64 (FP.Core.ddiv x y)) = _
  obtain ⟨s, c, q, ex⟩ := hx
  obtain ⟨t, d, r, ey⟩ := hy
  have hd : d ≠ 0 := fun e => hz ⟨t, r, by rw [ey, e]⟩
  rw [FP.Core.val64_ddiv, ex, ey]
  show sgn (if d = 0 then _ else FP.Core.roundRatio b64 (s != t) c d (q - r)) = _
  rw [if_neg hd, FP.Core.sgn_roundRatio]; rfl
theorem own_notz {y : UInt64} (hy : DFin y) (h : 0 < zv y) : ¬ DZero y := fun q => by have := q.zval; unfold zv at h; omega
theorem own_possg {y : UInt64} (h : 0 < zv y) : sgn (val64 y) = false ∧ ((zmag b64 (val64 y) : Nat) : Int) = zv y := by
  unfold zv zval at *
  cases e : sgn (val64 y) <;> rw [e] at h <;> simp only [signed, if_true, Bool.false_eq_true, if_false] at h ⊢
  · exact ⟨trivial, trivial⟩
  · omega
theorem own_div_le {x y V : UInt64} (hx : DFin x) (hy : DFin y) (h0 : 0 < zv y) (hV : val64 V ≠ .nan) (h : zv x * uu ≤ zv V * zv y) : zv (FP.ddiv x y) ≤ zv V := by
  have hz := own_notz hy h0
  obtain ⟨s1, s2⟩ := own_possg h0
  have sd := own_sgn_div hx hy hz
  have L := own_div_mag_le (V := V) hx hy hz hV
  have G := own_div_mag_ge (V := V) hx hy hz
  rw [← s2] at h
  have hy0 : 0 < zmag b64 (val64 y) := by omega
  unfold zv zval at h ⊢
  rw [sd, s1]
  have u0 := FP.Core.one64_pos
  have e : uu = ((one64 : Nat) : Int) := rfl
  rw [e] at h
  generalize zmag b64 (val64 y) = my at *
  generalize zmag b64 (val64 x) = mx at *
  generalize zmag b64 (val64 V) = mv at *
  generalize zmag b64 (val64 (FP.ddiv x y)) = md at *
  generalize one64 = u at *
  have p1 : ((mx : Nat) : Int) * ((u : Nat) : Int) = ((mx * u : Nat) : Int) := (Int.natCast_mul ..).symm
  have p2 : ((mv : Nat) : Int) * ((my : Nat) : Int) = ((mv * my : Nat) : Int) := (Int.natCast_mul ..).symm
  have z1 : mv * my = 0 → mv = 0 := fun q => by rcases Nat.mul_eq_zero.mp q with q | q <;> omega
  generalize sgn (val64 x) = sx at h ⊢
  generalize sgn (val64 V) = sV at h ⊢
  cases sx <;> cases sV <;> simp only [signed, if_true, Bool.false_eq_true, if_false, Int.neg_mul, p1, p2, bne_self_eq_false, Bool.bne_false] at h ⊢
  · have := L (by omega); omega
  · have := L (by omega); have := z1 (by omega); omega
  · omega
  · have := G (by omega); omega
theorem own_div_ge {x y V : UInt64} (hx : DFin x) (hy : DFin y) (h0 : 0 < zv y) (hV : val64 V ≠ .nan) (h : zv V * zv y ≤ zv x * uu) : zv V ≤ zv (FP.ddiv x y) := by
  have hz := own_notz hy h0
  obtain ⟨s1, s2⟩ := own_possg h0
  have sd := own_sgn_div hx hy hz
  have L := own_div_mag_le (V := V) hx hy hz hV
  have G := own_div_mag_ge (V := V) hx hy hz
  rw [← s2] at h
  have hy0 : 0 < zmag b64 (val64 y) := by omega
  unfold zv zval at h ⊢
  rw [sd, s1]
  have u0 := FP.Core.one64_pos
  have e : uu = ((one64 : Nat) : Int) := rfl
  rw [e] at h
  generalize zmag b64 (val64 y) = my at *
  generalize zmag b64 (val64 x) = mx at *
  generalize zmag b64 (val64 V) = mv at *
  generalize zmag b64 (val64 (FP.ddiv x y)) = md at *
  generalize one64 = u at *
  have p1 : ((mx : Nat) : Int) * ((u : Nat) : Int) = ((mx * u : Nat) : Int) := (Int.natCast_mul ..).symm
  have p2 : ((mv : Nat) : Int) * ((my : Nat) : Int) = ((mv * my : Nat) : Int) := (Int.natCast_mul ..).symm
  have z1 : mv * my = 0 → mv = 0 := fun q => by rcases Nat.mul_eq_zero.mp q with q | q <;> omega
  generalize sgn (val64 x) = sx at h ⊢
  generalize sgn (val64 V) = sV at h ⊢
  cases sx <;> cases sV <;> simp only [signed, if_true, Bool.false_eq_true, if_false, Int.neg_mul, p1, p2, bne_self_eq_false, Bool.bne_false] at h ⊢
  · have := G (by omega); omega
  · omega
  · have := L (by omega); have := z1 (by omega); omega
  · have := L (by omega); omega
theorem own_bits_of_zv {x : UInt64} (hn : val64 x ≠ .nan) {V : UInt64} (hV : DFin V) (h : zv x = zv V) : DFin x := by
  have q := hV.zval_lt
  cases e : val64 x with
  | nan => exact absurd e hn
  | fin s c r => exact ⟨s, c, r, e⟩
  | inf s =>
    exfalso
    have a1 : (zv x).natAbs = zmag b64 (val64 x) := by unfold zv zval; cases sgn (val64 x) <;> simp [signed]
    have a2 : (zv V).natAbs = zmag b64 (val64 V) := by unfold zv zval; cases sgn (val64 V) <;> simp [signed]
    rw [h, a2, e] at a1
    rw [a1] at q
    exact Nat.lt_irrefl _ q
/-- every n / 2^k of at most 53 digits is a double -/
theorem own_rep (n : Int) (k : Nat) (h1 : n.natAbs < 9007199254740992) (hk : k ≤ 1074) : ∃ V : UInt64, DFin V ∧ zv V * ((2 ^ k : Nat) : Int) = n * uu := by
  obtain ⟨c', q', e1, e2⟩ := FP.Core.round_exact good_b64 (decide (n < 0)) (c := n.natAbs) (q := -(k : Int)) (by exact h1) (by rw [own_qm]; omega) (by have h971 : b64.qmax = 971 := (by decide); omega)
  have f := FP.Core.round_fits good_b64 (.fin (decide (n < 0)) n.natAbs (-(k : Int)))
  refine ⟨FP.Core.of64 (FP.Core.round b64 (.fin (decide (n < 0)) n.natAbs (-(k : Int)))), ⟨decide (n < 0), c', q', by rw [FP.Core.val64_of64 f, e1]⟩, ?_⟩
  unfold zv
  rw [FP.Core.val64_of64 f, e1]
  show signed (decide (n < 0)) (inUnits c' q' b64.qmin) * _ = _
  rw [e2]
  unfold inUnits
  rw [FP.Core.signed_mul, Int.mul_assoc, ← Int.natCast_mul, ← Nat.pow_add, show (-(k : Int) - b64.qmin).toNat + k = 1074 by rw [own_qm]; omega]
  have s0 : signed (decide (n < 0)) n.natAbs = n := by
    unfold signed
    by_cases q : n < 0 <;> simp [q] <;> omega
  rw [s0]; rfl
/-- x is the number n / 2^k -/
def Dy (x : UInt64) (n : Int) (k : Nat) : Prop := DFin x ∧ zv x * ((2 ^ k : Nat) : Int) = n * uu
theorem Dy.fin {x : UInt64} {n : Int} {k : Nat} (D : Dy x n k) : DFin x := D.1
theorem Dy.nn {x : UInt64} {n : Int} {k : Nat} (D : Dy x n k) : NoNaN64 x := Fl.val64_no.mpr D.1.ne_nan
theorem own_pk (k : Nat) : 0 < ((2 ^ k : Nat) : Int) := by have := Nat.two_pow_pos k; omega
theorem own_mid {a b c d : Int} {k : Nat} (h1 : a * ((2 ^ k : Nat) : Int) = c) (h2 : b * ((2 ^ k : Nat) : Int) = d) : (a ≤ b ↔ c ≤ d) ∧ (a < b ↔ c < d) ∧ (a = b ↔ c = d) := by
  have p := own_pk k
  subst h1 h2
  generalize ((2 ^ k : Nat) : Int) = w at *
  exact ⟨(Int.mul_le_mul_right p).symm, (Int.mul_lt_mul_right p).symm, ⟨fun q => by rw [q], fun q => Int.eq_of_mul_eq_mul_right (by omega) q⟩⟩
theorem Dy.cmp {x y : UInt64} {n m : Int} {k : Nat} (A : Dy x n k) (B : Dy y m k) : FP.dcmp x y = some (compare n m) := by
  show FP.Core.dcmp x y = _
  rw [FP.Core.dcmp_zval A.1.ne_nan B.1.ne_nan]
  congr 1
  obtain ⟨-, q2, q3⟩ := own_mid A.2 B.2
  have u := uu_pos
  refine FP.Core.compare_congr (q2.trans ⟨fun q => ?_, fun q => Int.mul_lt_mul_of_pos_right q u⟩) (q3.trans ⟨fun q => Int.eq_of_mul_eq_mul_right (by omega) q, fun q => by rw [q]⟩)
  exact Int.lt_of_mul_lt_mul_right q (Int.le_of_lt u)
theorem Dy.lt {x y : UInt64} {n m : Int} {k : Nat} (A : Dy x n k) (B : Dy y m k) : FP.dcmp x y = some .lt ↔ n < m := by
  rw [A.cmp B, Option.some.injEq, FP.Core.compare_lt_iff]
theorem Dy.gt {x y : UInt64} {n m : Int} {k : Nat} (A : Dy x n k) (B : Dy y m k) : FP.dcmp x y = some .gt ↔ m < n := by
  rw [A.cmp B, Option.some.injEq, FP.Core.compare_gt_iff]
theorem Dy.eq {x y : UInt64} {n m : Int} {k : Nat} (A : Dy x n k) (B : Dy y m k) : FP.dcmp x y = some .eq ↔ n = m := by
  rw [A.cmp B, Option.some.injEq, FP.Core.compare_eq_iff]
theorem Dy.of_zv {x V : UInt64} {n : Int} {k : Nat} (hn : val64 x ≠ .nan) (hV : DFin V) (e : zv V * ((2 ^ k : Nat) : Int) = n * uu) (h1 : zv x ≤ zv V) (h2 : zv V ≤ zv x) : Dy x n k := by
  have q : zv x = zv V := by omega
  exact ⟨own_bits_of_zv hn hV q, by rw [q]; exact e⟩
theorem own_nn_add {x y : UInt64} (hx : DFin x) (hy : DFin y) : val64 (FP.dadd x y) ≠ .nan := Fl.val64_no.mp (Fl.noNaN64_no.mpr (FP.Core.dadd_out hx.notNaN hy))
theorem own_nn_sub {x y : UInt64} (hx : DFin x) (hy : DFin y) : val64 (FP.dsub x y) ≠ .nan := Fl.val64_no.mp (Fl.noNaN64_no.mpr (FP.Core.dsub_out hx.notNaN hy))
theorem own_nn_mul {x y : UInt64} (hx : DFin x) (hy : DFin y) : val64 (FP.dmul x y) ≠ .nan := Fl.val64_no.mp (Fl.noNaN64_no.mpr (FP.Core.dmul_out hx hy))
theorem own_nn_div {x y : UInt64} (hx : DFin x) (hy : DFin y) (hz : ¬ DZero y) : val64 (FP.ddiv x y) ≠ .nan := Fl.val64_no.mp (Fl.noNaN64_no.mpr (FP.Core.ddiv_out hx.notNaN hy hz))
theorem Dy.add {x y : UInt64} {n m : Int} {k : Nat} (A : Dy x n k) (B : Dy y m k) (hb : (n + m).natAbs < 9007199254740992) (hk : k ≤ 1074) : Dy (FP.dadd x y) (n + m) k := by
  obtain ⟨V, fV, eV⟩ := own_rep (n + m) k hb hk
  have e : (zv x + zv y) * ((2 ^ k : Nat) : Int) = (n + m) * uu := by rw [Int.add_mul, A.2, B.2, Int.add_mul]
  obtain ⟨-, -, q⟩ := own_mid e eV
  have q := q.mpr rfl
  exact Dy.of_zv (own_nn_add A.1 B.1) fV eV (own_add_le A.1 B.1 fV.ne_nan (by omega)) (own_add_ge A.1 B.1 fV.ne_nan (by omega))
theorem Dy.sub {x y : UInt64} {n m : Int} {k : Nat} (A : Dy x n k) (B : Dy y m k) (hb : (n - m).natAbs < 9007199254740992) (hk : k ≤ 1074) : Dy (FP.dsub x y) (n - m) k := by
  obtain ⟨V, fV, eV⟩ := own_rep (n - m) k hb hk
  have e : (zv x - zv y) * ((2 ^ k : Nat) : Int) = (n - m) * uu := by rw [Int.sub_mul, A.2, B.2, Int.sub_mul]
  obtain ⟨-, -, q⟩ := own_mid e eV
  have q := q.mpr rfl
  exact Dy.of_zv (own_nn_sub A.1 B.1) fV eV (own_sub_le A.1 B.1 fV.ne_nan (by omega)) (own_sub_ge A.1 B.1 fV.ne_nan (by omega))
theorem own_alg1 {X Y K J n m u : Int} (a : X * K = n * u) (b : Y * J = m * u) : X * Y * (K * J) = n * m * u * u := by
  calc X * Y * (K * J) = (X * K) * (Y * J) := by ac_rfl
    _ = (n * u) * (m * u) := by rw [a, b]
    _ = n * m * u * u := by ac_rfl
theorem own_alg2 {V K N u : Int} (e : V * K = N * u) : V * u * K = N * u * u := by
  calc V * u * K = V * K * u := by ac_rfl
    _ = N * u * u := by rw [e]
theorem own_alg3 {X Y V K J I n m r u : Int} (a : X * K = n * u) (b : Y * J = m * u) (e : V * I = r * u) : X * u * (K * (J * I)) = n * (J * I) * (u * u) ∧ V * Y * (K * (J * I)) = r * m * K * (u * u) := by
  constructor
  · calc X * u * (K * (J * I)) = (X * K) * u * (J * I) := by ac_rfl
      _ = n * u * u * (J * I) := by rw [a]
      _ = n * (J * I) * (u * u) := by ac_rfl
  · calc V * Y * (K * (J * I)) = (V * I) * (Y * J) * K := by ac_rfl
      _ = (r * u) * (m * u) * K := by rw [e, b]
      _ = r * m * K * (u * u) := by ac_rfl
theorem Dy.mul {x y : UInt64} {n m : Int} {k j : Nat} (A : Dy x n k) (B : Dy y m j) (hb : (n * m).natAbs < 9007199254740992) (hk : k + j ≤ 1074) : Dy (FP.dmul x y) (n * m) (k + j) := by
  obtain ⟨V, fV, eV⟩ := own_rep (n * m) (k + j) hb hk
  have e : (zv x * zv y) * ((2 ^ (k + j) : Nat) : Int) = (n * m) * uu * uu := by
    rw [Nat.pow_add, Int.natCast_mul]; exact own_alg1 A.2 B.2
  have e' : (zv V * uu) * ((2 ^ (k + j) : Nat) : Int) = (n * m) * uu * uu := own_alg2 eV
  obtain ⟨-, -, q⟩ := own_mid e e'
  have q := q.mpr rfl
  exact Dy.of_zv (own_nn_mul A.1 B.1) fV eV (own_mul_le A.1 B.1 fV.ne_nan (by omega)) (own_mul_ge A.1 B.1 fV.ne_nan (by omega))
theorem Dy.pos {y : UInt64} {m : Int} {j : Nat} (B : Dy y m j) (hm : 0 < m) : 0 < zv y := by
  have p := own_pk j
  have b := B.2
  have : 0 < m * uu := Int.mul_pos hm uu_pos
  rw [← b] at this
  exact Int.lt_of_mul_lt_mul_right (by rw [Int.zero_mul]; exact this) (Int.le_of_lt p)
/-- an exact quotient -/
theorem Dy.div {x y : UInt64} {n m r : Int} {k j i : Nat} (A : Dy x n k) (B : Dy y m j) (hm : 0 < m) (hq : n * ((2 ^ (j + i) : Nat) : Int) = r * m * ((2 ^ k : Nat) : Int)) (hb : r.natAbs < 9007199254740992) (hi : i ≤ 1074) : Dy (FP.ddiv x y) r i := by
  obtain ⟨V, fV, eV⟩ := own_rep r i hb hi
  have h0 := B.pos hm
  have e : zv x * uu = zv V * zv y := by
    have pk := own_pk k; have pj := own_pk j; have pi := own_pk i
    rw [Nat.pow_add, Int.natCast_mul] at hq
    obtain ⟨a1, a2⟩ := own_alg3 A.2 B.2 eV
    refine Int.eq_of_mul_eq_mul_right (a := ((2 ^ k : Nat) : Int) * (((2 ^ j : Nat) : Int) * ((2 ^ i : Nat) : Int))) (Int.ne_of_gt (Int.mul_pos pk (Int.mul_pos pj pi))) ?_
    rw [a1, a2, hq]
  exact Dy.of_zv (own_nn_div A.1 B.1 (own_notz B.1 h0)) fV eV (own_div_le A.1 B.1 h0 fV.ne_nan (by omega)) (own_div_ge A.1 B.1 h0 fV.ne_nan (by omega))
theorem Dy.up {x : UInt64} {n : Int} {k : Nat} (A : Dy x n k) (j : Nat) : Dy x (n * ((2 ^ j : Nat) : Int)) (k + j) := by
  refine ⟨A.1, ?_⟩
  rw [Nat.pow_add, Int.natCast_mul, ← Int.mul_assoc, A.2]; exact Int.mul_right_comm _ _ _
theorem Dy.to {x : UInt64} {n n' : Int} {k : Nat} (A : Dy x n k) (e : n = n') : Dy x n' k := e ▸ A
theorem own_dy_int {x : UInt64} {i : Int} (h : FP.Core.DInt i x) : Dy x i 0 := by
  have z := FP.Core.DInt_zval h
  have n := FP.Core.DInt_ne_nan h
  refine ⟨?_, by rw [show ((2 ^ 0 : Nat) : Int) = 1 from rfl, Int.mul_one]; exact z⟩
  unfold FP.Core.DInt at h
  cases e : val64 x with
  | nan => exact absurd e n
  | inf s => rw [e] at h; exact h.elim
  | fin s c q => exact ⟨s, c, q, e⟩
theorem dy_i2d (a : Int32) : Dy (FP.i2d a) a.toInt 0 := own_dy_int (FP.Core.i2d_int a)
theorem dy_l2d {a : Int64} (h1 : -9007199254740992 < a.toInt) (h2 : a.toInt < 9007199254740992) : Dy (FP.l2d a) a.toInt 0 := own_dy_int (FP.Core.l2d_whole ⟨h1, h2⟩)
/-- 0.0 + x is x, bit for bit, for a finite x that isn't -0.0 -/
theorem own_zero_add {x : UInt64} {s : Bool} {c : Nat} {q : Int} (hx : val64 x = .fin s c q) (h0 : c = 0 → s = false) : FP.dadd 0 x = x := by
  show FP.Core.dadd 0 x = x
  have fx := val64_fits x
  rw [hx] at fx
  have hq := fx.2.1
  have key : val64 (FP.Core.dadd 0 x) = .fin s c q := by
    rw [FP.Core.val64_dadd, FP.Core.val64_zero, hx]
    have m : min b64.qmin q = b64.qmin := by omega
    have u : FP.Core.sumUnits false 0 b64.qmin s c q b64.qmin = signed s (inUnits c q b64.qmin) := by
      unfold FP.Core.sumUnits; simp [signed, inUnits]
    show FP.Core.roundRatio b64 (FP.Core.sumSign false s (FP.Core.sumUnits false 0 b64.qmin s c q (min b64.qmin q))) (FP.Core.sumUnits false 0 b64.qmin s c q (min b64.qmin q)).natAbs 1 (min b64.qmin q) = _
    rw [m, u]
    have na : (signed s (inUnits c q b64.qmin)).natAbs = inUnits c q b64.qmin := by unfold signed; cases s <;> simp
    have sg : FP.Core.sumSign false s (signed s (inUnits c q b64.qmin)) = s := by
      have pp := Nat.two_pow_pos (q - b64.qmin).toNat
      unfold FP.Core.sumSign
      by_cases c0 : c = 0
      · subst c0; simp [signed, inUnits, h0 rfl]
      · have : 0 < inUnits c q b64.qmin := Nat.mul_pos (Nat.pos_of_ne_zero c0) pp
        cases s <;> simp [signed] <;> omega
    rw [na, sg]
    refine FP.Core.roundRatio_exact good_b64 (by decide) fx ?_
    rw [show (b64.qmin - q).toNat = 0 by omega, Nat.pow_zero, Nat.mul_one, Nat.mul_one]; rfl
  exact FP.Core.val64_inj (by rw [key]; exact FP.Core.Datum.noConfusion) (key.trans hx.symm)
theorem own_scale3 {X Y n m r : Int} {k j i : Nat} {V : Int} (a : X * ((2 ^ k : Nat) : Int) = n * uu) (b : Y * ((2 ^ j : Nat) : Int) = m * uu) (e : V * ((2 ^ i : Nat) : Int) = r * uu) :
    X * uu * (((2 ^ k : Nat) : Int) * (((2 ^ j : Nat) : Int) * ((2 ^ i : Nat) : Int))) = n * ((2 ^ (j + i) : Nat) : Int) * (uu * uu) ∧ V * Y * (((2 ^ k : Nat) : Int) * (((2 ^ j : Nat) : Int) * ((2 ^ i : Nat) : Int))) = r * m * ((2 ^ k : Nat) : Int) * (uu * uu) := by
  rw [Nat.pow_add, Int.natCast_mul]; exact own_alg3 a b e
theorem Dy.div_le {x y V : UInt64} {n m r : Int} {k j i : Nat} (A : Dy x n k) (B : Dy y m j) (hm : 0 < m) (C : Dy V r i) (h : n * ((2 ^ (j + i) : Nat) : Int) ≤ r * m * ((2 ^ k : Nat) : Int)) : zv (FP.ddiv x y) ≤ zv V := by
  refine own_div_le A.1 B.1 (B.pos hm) C.1.ne_nan ?_
  obtain ⟨e1, e2⟩ := own_scale3 A.2 B.2 C.2
  have p : 0 < ((2 ^ k : Nat) : Int) * (((2 ^ j : Nat) : Int) * ((2 ^ i : Nat) : Int)) := Int.mul_pos (own_pk k) (Int.mul_pos (own_pk j) (own_pk i))
  refine Int.le_of_mul_le_mul_right ?_ p
  rw [e1, e2]
  exact Int.mul_le_mul_of_nonneg_right h (Int.le_of_lt (Int.mul_pos uu_pos uu_pos))
theorem Dy.div_ge {x y V : UInt64} {n m r : Int} {k j i : Nat} (A : Dy x n k) (B : Dy y m j) (hm : 0 < m) (C : Dy V r i) (h : r * m * ((2 ^ k : Nat) : Int) ≤ n * ((2 ^ (j + i) : Nat) : Int)) : zv V ≤ zv (FP.ddiv x y) := by
  refine own_div_ge A.1 B.1 (B.pos hm) C.1.ne_nan ?_
  obtain ⟨e1, e2⟩ := own_scale3 A.2 B.2 C.2
  have p : 0 < ((2 ^ k : Nat) : Int) * (((2 ^ j : Nat) : Int) * ((2 ^ i : Nat) : Int)) := Int.mul_pos (own_pk k) (Int.mul_pos (own_pk j) (own_pk i))
  refine Int.le_of_mul_le_mul_right ?_ p
  rw [e1, e2]
  exact Int.mul_le_mul_of_nonneg_right h (Int.le_of_lt (Int.mul_pos uu_pos uu_pos))
/-- the order of two numbers written over one power of two -/
theorem Dy.zle {x y : UInt64} {n m : Int} {k : Nat} (A : Dy x n k) (B : Dy y m k) : (zv x ≤ zv y ↔ n ≤ m) ∧ (zv x < zv y ↔ n < m) := by
  obtain ⟨q1, q2, -⟩ := own_mid A.2 B.2
  have u := uu_pos
  exact ⟨q1.trans ⟨fun q => Int.le_of_mul_le_mul_right q u, fun q => Int.mul_le_mul_of_nonneg_right q (Int.le_of_lt u)⟩, q2.trans ⟨fun q => Int.lt_of_mul_lt_mul_right q (Int.le_of_lt u), fun q => Int.mul_lt_mul_of_pos_right q u⟩⟩
end OwnF
theorem pn_com_example_phlow_phlow_engine_LaneIndexOfPinLaw : plainName "com/example/phlow/phlow/engine/LaneIndexOfPinLaw" = true := by first | (simp [plainName, overriddenIn]; done) | decide +kernel
theorem pn_com_example_phlow_phlow_demand_Trip : plainName "com/example/phlow/phlow/demand/Trip" = true := by first | (simp [plainName, overriddenIn]; done) | decide +kernel
theorem pn_com_example_phlow_phlow_engine_Vehicle : plainName "com/example/phlow/phlow/engine/Vehicle" = true := by first | (simp [plainName, overriddenIn]; done) | decide +kernel
theorem pn_com_example_phlow_phlow_engine_Lane : plainName "com/example/phlow/phlow/engine/Lane" = true := by first | (simp [plainName, overriddenIn]; done) | decide +kernel
theorem d1_0 : decode prog_1_method_1_code 0 = .ok (.aload_n 0, 1) := by decide +kernel
theorem d1_1 : decode prog_1_method_1_code 1 = .ok (.aload_n 1, 1) := by decide +kernel
theorem d1_2 : decode prog_1_method_1_code 2 = .ok (.lload_n 2, 1) := by decide +kernel
theorem d1_3 : decode prog_1_method_1_code 3 = .ok (.lload 4, 2) := by decide +kernel
theorem d1_5 : decode prog_1_method_1_code 5 = .ok (.dload 6, 2) := by decide +kernel
theorem d1_7 : decode prog_1_method_1_code 7 = .ok (.ldc2_w 3, 3) := by decide +kernel
theorem d1_10 : decode prog_1_method_1_code 10 = .ok (.invokespecial 5, 3) := by decide +kernel
theorem d1_13 : decode prog_1_method_1_code 13 = .ok (.return_, 1) := by decide +kernel
theorem d2_0 : decode prog_1_method_2_code 0 = .ok (.aload_n 0, 1) := by decide +kernel
theorem d2_1 : decode prog_1_method_2_code 1 = .ok (.invokespecial 11, 3) := by decide +kernel
theorem d2_4 : decode prog_1_method_2_code 4 = .ok (.aload_n 0, 1) := by decide +kernel
theorem d2_5 : decode prog_1_method_2_code 5 = .ok (.aload_n 1, 1) := by decide +kernel
theorem d2_6 : decode prog_1_method_2_code 6 = .ok (.putfield 16, 3) := by decide +kernel
theorem d2_9 : decode prog_1_method_2_code 9 = .ok (.aload_n 0, 1) := by decide +kernel
theorem d2_10 : decode prog_1_method_2_code 10 = .ok (.lload_n 2, 1) := by decide +kernel
theorem d2_11 : decode prog_1_method_2_code 11 = .ok (.putfield 20, 3) := by decide +kernel
theorem d2_14 : decode prog_1_method_2_code 14 = .ok (.aload_n 0, 1) := by decide +kernel
theorem d2_15 : decode prog_1_method_2_code 15 = .ok (.lload 4, 2) := by decide +kernel
theorem d2_17 : decode prog_1_method_2_code 17 = .ok (.putfield 24, 3) := by decide +kernel
theorem d2_20 : decode prog_1_method_2_code 20 = .ok (.aload_n 0, 1) := by decide +kernel
theorem d2_21 : decode prog_1_method_2_code 21 = .ok (.dload 6, 2) := by decide +kernel
theorem d2_23 : decode prog_1_method_2_code 23 = .ok (.putfield 27, 3) := by decide +kernel
theorem d2_26 : decode prog_1_method_2_code 26 = .ok (.aload_n 0, 1) := by decide +kernel
theorem d2_27 : decode prog_1_method_2_code 27 = .ok (.dload 8, 2) := by decide +kernel
theorem d2_29 : decode prog_1_method_2_code 29 = .ok (.putfield 31, 3) := by decide +kernel
theorem d2_32 : decode prog_1_method_2_code 32 = .ok (.return_, 1) := by decide +kernel
theorem d4_0 : decode prog_24_method_1_code 0 = .ok (.aload_n 0, 1) := by decide +kernel
theorem d4_1 : decode prog_24_method_1_code 1 = .ok (.invokespecial 1, 3) := by decide +kernel
theorem d4_4 : decode prog_24_method_1_code 4 = .ok (.aload_n 0, 1) := by decide +kernel
theorem d4_5 : decode prog_24_method_1_code 5 = .ok (.ldc2_w 9, 3) := by decide +kernel
theorem d4_8 : decode prog_24_method_1_code 8 = .ok (.putfield 11, 3) := by decide +kernel
theorem d4_11 : decode prog_24_method_1_code 11 = .ok (.aload_n 0, 1) := by decide +kernel
theorem d4_12 : decode prog_24_method_1_code 12 = .ok (.ldc2_w 9, 3) := by decide +kernel
theorem d4_15 : decode prog_24_method_1_code 15 = .ok (.putfield 17, 3) := by decide +kernel
theorem d4_18 : decode prog_24_method_1_code 18 = .ok (.aload_n 0, 1) := by decide +kernel
theorem d4_19 : decode prog_24_method_1_code 19 = .ok (.aload_n 1, 1) := by decide +kernel
theorem d4_20 : decode prog_24_method_1_code 20 = .ok (.putfield 20, 3) := by decide +kernel
theorem d4_23 : decode prog_24_method_1_code 23 = .ok (.aload_n 0, 1) := by decide +kernel
theorem d4_24 : decode prog_24_method_1_code 24 = .ok (.aload_n 1, 1) := by decide +kernel
theorem d4_25 : decode prog_24_method_1_code 25 = .ok (.invokevirtual 24, 3) := by decide +kernel
theorem d4_28 : decode prog_24_method_1_code 28 = .ok (.putfield 30, 3) := by decide +kernel
theorem d4_31 : decode prog_24_method_1_code 31 = .ok (.aload_n 0, 1) := by decide +kernel
theorem d4_32 : decode prog_24_method_1_code 32 = .ok (.aload_n 1, 1) := by decide +kernel
theorem d4_33 : decode prog_24_method_1_code 33 = .ok (.invokevirtual 34, 3) := by decide +kernel
theorem d4_36 : decode prog_24_method_1_code 36 = .ok (.putfield 38, 3) := by decide +kernel
theorem d4_39 : decode prog_24_method_1_code 39 = .ok (.aload_n 0, 1) := by decide +kernel
theorem d4_40 : decode prog_24_method_1_code 40 = .ok (.aload_n 2, 1) := by decide +kernel
theorem d4_41 : decode prog_24_method_1_code 41 = .ok (.invokevirtual 40, 3) := by decide +kernel
theorem d4_44 : decode prog_24_method_1_code 44 = .ok (.checkcast 41, 3) := by decide +kernel
theorem d4_47 : decode prog_24_method_1_code 47 = .ok (.putfield 46, 3) := by decide +kernel
theorem d4_50 : decode prog_24_method_1_code 50 = .ok (.aload_n 2, 1) := by decide +kernel
theorem d4_51 : decode prog_24_method_1_code 51 = .ok (.arraylength, 1) := by decide +kernel
theorem d4_52 : decode prog_24_method_1_code 52 = .ok (.ifCond .le 11, 3) := by decide +kernel
theorem d4_63 : decode prog_24_method_1_code 63 = .ok (.aload_n 0, 1) := by decide +kernel
theorem d4_64 : decode prog_24_method_1_code 64 = .ok (.iconst (-1), 1) := by decide +kernel
theorem d4_65 : decode prog_24_method_1_code 65 = .ok (.putfield 53, 3) := by decide +kernel
theorem d4_68 : decode prog_24_method_1_code 68 = .ok (.aload_n 0, 1) := by decide +kernel
theorem d4_69 : decode prog_24_method_1_code 69 = .ok (.iconst (-1), 1) := by decide +kernel
theorem d4_70 : decode prog_24_method_1_code 70 = .ok (.putfield 57, 3) := by decide +kernel
theorem d4_73 : decode prog_24_method_1_code 73 = .ok (.return_, 1) := by decide +kernel
theorem d5_0 : decode prog_1_method_3_code 0 = .ok (.aload_n 0, 1) := by decide +kernel
theorem d5_1 : decode prog_1_method_3_code 1 = .ok (.getfield 16, 3) := by decide +kernel
theorem d5_4 : decode prog_1_method_3_code 4 = .ok (.areturn, 1) := by decide +kernel
theorem d6_0 : decode prog_1_method_7_code 0 = .ok (.aload_n 0, 1) := by decide +kernel
theorem d6_1 : decode prog_1_method_7_code 1 = .ok (.getfield 31, 3) := by decide +kernel
theorem d6_4 : decode prog_1_method_7_code 4 = .ok (.dreturn, 1) := by decide +kernel
theorem d7_0 : decode prog_11_method_1_code 0 = .ok (.aload_n 0, 1) := by decide +kernel
theorem d7_1 : decode prog_11_method_1_code 1 = .ok (.invokespecial 1, 3) := by decide +kernel
theorem d7_4 : decode prog_11_method_1_code 4 = .ok (.aload_n 0, 1) := by decide +kernel
theorem d7_5 : decode prog_11_method_1_code 5 = .ok (.iconst 4, 1) := by decide +kernel
theorem d7_6 : decode prog_11_method_1_code 6 = .ok (.anewarray 7, 3) := by decide +kernel
theorem d7_9 : decode prog_11_method_1_code 9 = .ok (.putfield 9, 3) := by decide +kernel
theorem d7_12 : decode prog_11_method_1_code 12 = .ok (.aload_n 0, 1) := by decide +kernel
theorem d7_13 : decode prog_11_method_1_code 13 = .ok (.iload_n 1, 1) := by decide +kernel
theorem d7_14 : decode prog_11_method_1_code 14 = .ok (.putfield 15, 3) := by decide +kernel
theorem d7_17 : decode prog_11_method_1_code 17 = .ok (.aload_n 0, 1) := by decide +kernel
theorem d7_18 : decode prog_11_method_1_code 18 = .ok (.iload_n 2, 1) := by decide +kernel
theorem d7_19 : decode prog_11_method_1_code 19 = .ok (.putfield 19, 3) := by decide +kernel
theorem d7_22 : decode prog_11_method_1_code 22 = .ok (.return_, 1) := by decide +kernel
theorem d8_0 : decode method_2_code 0 = .ok (.iload_n 0, 1) := by decide +kernel
theorem d8_1 : decode method_2_code 1 = .ok (.ifCond .ne 5, 3) := by decide +kernel
theorem d8_4 : decode method_2_code 4 = .ok (.aload_n 1, 1) := by decide +kernel
theorem d8_5 : decode method_2_code 5 = .ok (.areturn, 1) := by decide +kernel
theorem d8_6 : decode method_2_code 6 = .ok (.iload_n 0, 1) := by decide +kernel
theorem d8_7 : decode method_2_code 7 = .ok (.iconst 1, 1) := by decide +kernel
theorem d8_8 : decode method_2_code 8 = .ok (.if_icmp .ne 5, 3) := by decide +kernel
theorem d8_11 : decode method_2_code 11 = .ok (.aload_n 2, 1) := by decide +kernel
theorem d8_12 : decode method_2_code 12 = .ok (.areturn, 1) := by decide +kernel
theorem d8_13 : decode method_2_code 13 = .ok (.iload_n 0, 1) := by decide +kernel
theorem d8_14 : decode method_2_code 14 = .ok (.iconst 2, 1) := by decide +kernel
theorem d8_15 : decode method_2_code 15 = .ok (.if_icmp .ne 5, 3) := by decide +kernel
theorem d8_18 : decode method_2_code 18 = .ok (.aload_n 3, 1) := by decide +kernel
theorem d8_19 : decode method_2_code 19 = .ok (.areturn, 1) := by decide +kernel
theorem d8_20 : decode method_2_code 20 = .ok (.aconst_null, 1) := by decide +kernel
theorem d8_21 : decode method_2_code 21 = .ok (.areturn, 1) := by decide +kernel
theorem d9_0 : decode prog_11_method_7_code 0 = .ok (.iconst (-1), 1) := by decide +kernel
theorem d9_1 : decode prog_11_method_7_code 1 = .ok (.istore_n 2, 1) := by decide +kernel
theorem d9_2 : decode prog_11_method_7_code 2 = .ok (.iconst 0, 1) := by decide +kernel
theorem d9_3 : decode prog_11_method_7_code 3 = .ok (.istore_n 3, 1) := by decide +kernel
theorem d9_4 : decode prog_11_method_7_code 4 = .ok (.iload_n 2, 1) := by decide +kernel
theorem d9_5 : decode prog_11_method_7_code 5 = .ok (.ifCond .ge 29, 3) := by decide +kernel
theorem d9_8 : decode prog_11_method_7_code 8 = .ok (.iload_n 3, 1) := by decide +kernel
theorem d9_9 : decode prog_11_method_7_code 9 = .ok (.aload_n 0, 1) := by decide +kernel
theorem d9_10 : decode prog_11_method_7_code 10 = .ok (.getfield 22, 3) := by decide +kernel
theorem d9_13 : decode prog_11_method_7_code 13 = .ok (.if_icmp .ge 21, 3) := by decide +kernel
theorem d9_16 : decode prog_11_method_7_code 16 = .ok (.aload_n 0, 1) := by decide +kernel
theorem d9_17 : decode prog_11_method_7_code 17 = .ok (.getfield 9, 3) := by decide +kernel
theorem d9_20 : decode prog_11_method_7_code 20 = .ok (.iload_n 3, 1) := by decide +kernel
theorem d9_21 : decode prog_11_method_7_code 21 = .ok (.aaload, 1) := by decide +kernel
theorem d9_22 : decode prog_11_method_7_code 22 = .ok (.aload_n 1, 1) := by decide +kernel
theorem d9_23 : decode prog_11_method_7_code 23 = .ok (.if_acmp .ne 5, 3) := by decide +kernel
theorem d9_26 : decode prog_11_method_7_code 26 = .ok (.iload_n 3, 1) := by decide +kernel
theorem d9_27 : decode prog_11_method_7_code 27 = .ok (.istore_n 2, 1) := by decide +kernel
theorem d9_28 : decode prog_11_method_7_code 28 = .ok (.iinc 3 1, 3) := by decide +kernel
theorem d9_31 : decode prog_11_method_7_code 31 = .ok (.goto (-27), 3) := by decide +kernel
theorem d9_34 : decode prog_11_method_7_code 34 = .ok (.iload_n 2, 1) := by decide +kernel
theorem d9_35 : decode prog_11_method_7_code 35 = .ok (.ireturn, 1) := by decide +kernel
theorem d10_0 : decode prog_11_method_6_code 0 = .ok (.iconst 0, 1) := by decide +kernel
theorem d10_1 : decode prog_11_method_6_code 1 = .ok (.istore_n 2, 1) := by decide +kernel
theorem d10_2 : decode prog_11_method_6_code 2 = .ok (.iload_n 2, 1) := by decide +kernel
theorem d10_3 : decode prog_11_method_6_code 3 = .ok (.aload_n 0, 1) := by decide +kernel
theorem d10_4 : decode prog_11_method_6_code 4 = .ok (.getfield 22, 3) := by decide +kernel
theorem d10_7 : decode prog_11_method_6_code 7 = .ok (.if_icmp .ge 26, 3) := by decide +kernel
theorem d10_10 : decode prog_11_method_6_code 10 = .ok (.aload_n 0, 1) := by decide +kernel
theorem d10_11 : decode prog_11_method_6_code 11 = .ok (.getfield 9, 3) := by decide +kernel
theorem d10_14 : decode prog_11_method_6_code 14 = .ok (.iload_n 2, 1) := by decide +kernel
theorem d10_15 : decode prog_11_method_6_code 15 = .ok (.aaload, 1) := by decide +kernel
theorem d10_16 : decode prog_11_method_6_code 16 = .ok (.invokevirtual 34, 3) := by decide +kernel
theorem d10_19 : decode prog_11_method_6_code 19 = .ok (.aload_n 1, 1) := by decide +kernel
theorem d10_20 : decode prog_11_method_6_code 20 = .ok (.invokevirtual 34, 3) := by decide +kernel
theorem d10_23 : decode prog_11_method_6_code 23 = .ok (.dcmp .g, 1) := by decide +kernel
theorem d10_24 : decode prog_11_method_6_code 24 = .ok (.ifCond .ge 9, 3) := by decide +kernel
theorem d10_33 : decode prog_11_method_6_code 33 = .ok (.aload_n 0, 1) := by decide +kernel
theorem d10_34 : decode prog_11_method_6_code 34 = .ok (.getfield 22, 3) := by decide +kernel
theorem d10_37 : decode prog_11_method_6_code 37 = .ok (.aload_n 0, 1) := by decide +kernel
theorem d10_38 : decode prog_11_method_6_code 38 = .ok (.getfield 9, 3) := by decide +kernel
theorem d10_41 : decode prog_11_method_6_code 41 = .ok (.arraylength, 1) := by decide +kernel
theorem d10_42 : decode prog_11_method_6_code 42 = .ok (.if_icmp .ne 23, 3) := by decide +kernel
theorem d10_65 : decode prog_11_method_6_code 65 = .ok (.aload_n 0, 1) := by decide +kernel
theorem d10_66 : decode prog_11_method_6_code 66 = .ok (.getfield 9, 3) := by decide +kernel
theorem d10_69 : decode prog_11_method_6_code 69 = .ok (.iload_n 2, 1) := by decide +kernel
theorem d10_70 : decode prog_11_method_6_code 70 = .ok (.aload_n 0, 1) := by decide +kernel
theorem d10_71 : decode prog_11_method_6_code 71 = .ok (.getfield 9, 3) := by decide +kernel
theorem d10_74 : decode prog_11_method_6_code 74 = .ok (.iload_n 2, 1) := by decide +kernel
theorem d10_75 : decode prog_11_method_6_code 75 = .ok (.iconst 1, 1) := by decide +kernel
theorem d10_76 : decode prog_11_method_6_code 76 = .ok (.iadd, 1) := by decide +kernel
theorem d10_77 : decode prog_11_method_6_code 77 = .ok (.aload_n 0, 1) := by decide +kernel
theorem d10_78 : decode prog_11_method_6_code 78 = .ok (.getfield 22, 3) := by decide +kernel
theorem d10_81 : decode prog_11_method_6_code 81 = .ok (.iload_n 2, 1) := by decide +kernel
theorem d10_82 : decode prog_11_method_6_code 82 = .ok (.isub, 1) := by decide +kernel
theorem d10_83 : decode prog_11_method_6_code 83 = .ok (.invokestatic 45, 3) := by decide +kernel
theorem d10_86 : decode prog_11_method_6_code 86 = .ok (.aload_n 0, 1) := by decide +kernel
theorem d10_87 : decode prog_11_method_6_code 87 = .ok (.getfield 9, 3) := by decide +kernel
theorem d10_90 : decode prog_11_method_6_code 90 = .ok (.iload_n 2, 1) := by decide +kernel
theorem d10_91 : decode prog_11_method_6_code 91 = .ok (.aload_n 1, 1) := by decide +kernel
theorem d10_92 : decode prog_11_method_6_code 92 = .ok (.aastore, 1) := by decide +kernel
theorem d10_93 : decode prog_11_method_6_code 93 = .ok (.aload_n 0, 1) := by decide +kernel
theorem d10_94 : decode prog_11_method_6_code 94 = .ok (.dup, 1) := by decide +kernel
theorem d10_95 : decode prog_11_method_6_code 95 = .ok (.getfield 22, 3) := by decide +kernel
theorem d10_98 : decode prog_11_method_6_code 98 = .ok (.iconst 1, 1) := by decide +kernel
theorem d10_99 : decode prog_11_method_6_code 99 = .ok (.iadd, 1) := by decide +kernel
theorem d10_100 : decode prog_11_method_6_code 100 = .ok (.putfield 22, 3) := by decide +kernel
theorem d10_103 : decode prog_11_method_6_code 103 = .ok (.iload_n 2, 1) := by decide +kernel
theorem d10_104 : decode prog_11_method_6_code 104 = .ok (.ireturn, 1) := by decide +kernel
theorem d11_0 : decode prog_24_method_8_code 0 = .ok (.aload_n 0, 1) := by decide +kernel
theorem d11_1 : decode prog_24_method_8_code 1 = .ok (.getfield 67, 3) := by decide +kernel
theorem d11_4 : decode prog_24_method_8_code 4 = .ok (.dreturn, 1) := by decide +kernel
theorem pd_0 : parseMethodDescriptor "(Ljava/lang/String;JJDD)V" = some ⟨[(.object "java/lang/String"), .long, .long, .double, .double], none⟩ := by decide +kernel
theorem pd_1 : parseMethodDescriptor "()Ljava/lang/String;" = some ⟨[], some (.object "java/lang/String")⟩ := by decide +kernel
theorem pd_2 : parseMethodDescriptor "()D" = some ⟨[], some .double⟩ := by decide +kernel
theorem pd_3 : parseMethodDescriptor "(Ljava/lang/String;JJD)V" = some ⟨[(.object "java/lang/String"), .long, .long, .double], none⟩ := by decide +kernel
theorem pd_4 : parseMethodDescriptor "(Lcom/example/phlow/phlow/demand/Trip;[I)V" = some ⟨[(.object "com/example/phlow/phlow/demand/Trip"), (.array .int)], none⟩ := by decide +kernel
theorem pd_5 : parseMethodDescriptor "(II)V" = some ⟨[.int, .int], none⟩ := by decide +kernel
theorem pd_6 : parseMethodDescriptor "(ILcom/example/phlow/phlow/engine/Vehicle;Lcom/example/phlow/phlow/engine/Vehicle;Lcom/example/phlow/phlow/engine/Vehicle;)Lcom/example/phlow/phlow/engine/Vehicle;" = some ⟨[.int, (.object "com/example/phlow/phlow/engine/Vehicle"), (.object "com/example/phlow/phlow/engine/Vehicle"), (.object "com/example/phlow/phlow/engine/Vehicle")], some (.object "com/example/phlow/phlow/engine/Vehicle")⟩ := by decide +kernel
theorem pd_7 : parseMethodDescriptor "(Lcom/example/phlow/phlow/engine/Vehicle;)I" = some ⟨[(.object "com/example/phlow/phlow/engine/Vehicle")], some .int⟩ := by decide +kernel


theorem own_wS : ∀ d ∈ Bundle.stringAtoms, d ∈ tables_1 := fun d hd => List.mem_of_mem_drop (show d ∈ tables_1.drop 5 from List.mem_of_mem_take (show d ∈ (tables_1.drop 5).take 7 from hd))

theorem own_mask3 (k : Int32) : k &&& (3 : Int32) = 0 ∨ k &&& (3 : Int32) = 1 ∨ k &&& (3 : Int32) = 2 ∨ k &&& (3 : Int32) = 3 := by
  have h := c_mask k 3 2 (by decide) (by decide)
  have e : ((2 ^ 2 : Nat) : Int) = 4 := by decide
  rw [e] at h
  simp only [← Int32.toInt_inj, h]
  have e0 : (0 : Int32).toInt = 0 := by decide
  have e1 : (1 : Int32).toInt = 1 := by decide
  have e2 : (2 : Int32).toInt = 2 := by decide
  have e3 : (3 : Int32).toInt = 3 := by decide
  omega

/-- (x and the greatest int) % k lies between 0 and k - 1 -/
theorem own_idx (x y : Int32) (k : Int) (hy : y.toInt = k) (hk : 0 < k) : 0 ≤ ((x &&& (2147483647 : Int32)) % y).toInt ∧ ((x &&& (2147483647 : Int32)) % y).toInt < k := by
  have h := c_mask x 2147483647 31 (by decide) (by decide)
  have e : ((2 ^ 31 : Nat) : Int) = 2147483648 := by decide
  rw [e] at h
  have r := (c_irem (x &&& 2147483647) y k hy).1 (by omega)
  rw [r]
  exact ⟨Int.emod_nonneg _ (by omega), Int.emod_lt_of_pos _ hk⟩
theorem own_nonneg {i : Int32} (h : 0 ≤ i.toInt) : ¬ i < 0 := by
  rw [Int32.lt_iff_toInt_lt]; have : (0 : Int32).toInt = 0 := by decide
  omega
theorem own_pick {ds : List UInt64} {i : Int32} (h0 : 0 ≤ i.toInt) (h1 : i.toInt < ds.length) (hn : ∀ d ∈ ds, NoNaN64 d) : ∃ d, (ds.map Value.double)[i.toNatClampNeg]? = some (.double d) ∧ NoNaN64 d := by
  have hl : i.toNatClampNeg < ds.length := by show i.toInt.toNat < _; omega
  exact ⟨ds[i.toNatClampNeg], by rw [List.getElem?_map, List.getElem?_eq_getElem hl]; rfl, hn _ (List.getElem_mem hl)⟩

theorem own_pk1 {p : Int32} {r a b d : Addr} (h : p = 0) (q : (p = 0 ∧ r = a) ∨ (p = 1 ∧ r = b) ∨ (p = 2 ∧ r = d)) : some (Value.ref a) = some (Value.ref r) := by
  subst h
  rcases q with ⟨_, q⟩ | ⟨q, _⟩ | ⟨q, _⟩
  · rw [q]
  · exact absurd q (by decide)
  · exact absurd q (by decide)
theorem own_pk2 {p : Int32} {r a b d : Addr} (h : p = 1) (q : (p = 0 ∧ r = a) ∨ (p = 1 ∧ r = b) ∨ (p = 2 ∧ r = d)) : some (Value.ref b) = some (Value.ref r) := by
  subst h
  rcases q with ⟨q, _⟩ | ⟨_, q⟩ | ⟨q, _⟩
  · exact absurd q (by decide)
  · rw [q]
  · exact absurd q (by decide)
theorem own_pk3 {p : Int32} {r a b d : Addr} (h : p = 2) (q : (p = 0 ∧ r = a) ∨ (p = 1 ∧ r = b) ∨ (p = 2 ∧ r = d)) : some (Value.ref d) = some (Value.ref r) := by
  subst h
  rcases q with ⟨q, _⟩ | ⟨q, _⟩ | ⟨_, q⟩
  · exact absurd q (by decide)
  · exact absurd q (by decide)
  · rw [q]
theorem own_pk4 {p : Int32} {r a b d : Addr} {v : Option Value} (h1 : ¬ (p = 0)) (h2 : ¬ (p = 1)) (h3 : ¬ (p = 2)) (q : (p = 0 ∧ r = a) ∨ (p = 1 ∧ r = b) ∨ (p = 2 ∧ r = d)) : v = some (Value.ref r) := by
  rcases q with ⟨q, _⟩ | ⟨q, _⟩ | ⟨q, _⟩
  · exact absurd q h1
  · exact absurd q h2
  · exact absurd q h3
theorem own_c3 {x n : Int32} (q : (x &&& (2147483647 : Int32)) % (3 : Int32) = n) : n = 0 ∨ n = 1 ∨ n = 2 := by
  obtain ⟨h1, h2⟩ := own_idx x 3 3 (by decide) (by decide)
  rw [q] at h1 h2
  simp only [← Int32.toInt_inj]
  have e0 : (0 : Int32).toInt = 0 := by decide
  have e1 : (1 : Int32).toInt = 1 := by decide
  have e2 : (2 : Int32).toInt = 2 := by decide
  omega
theorem own_n4 {x n : Int32} (q : x &&& (3 : Int32) = n) : n = 0 ∨ n = 1 ∨ n = 2 ∨ n = 3 := q ▸ own_mask3 x
theorem own_ex {n : Int32} {a b d : Addr} (h : n = 0 ∨ n = 1 ∨ n = 2) : ∃ r : Addr, (n = 0 ∧ r = a) ∨ (n = 1 ∧ r = b) ∨ (n = 2 ∧ r = d) := by
  rcases h with h | h | h
  · exact ⟨a, Or.inl ⟨h, rfl⟩⟩
  · exact ⟨b, Or.inr (Or.inl ⟨h, rfl⟩)⟩
  · exact ⟨d, Or.inr (Or.inr ⟨h, rfl⟩)⟩
theorem own_of {n : Int32} {r a b d : Addr} {P : Addr → Prop} (q : (n = 0 ∧ r = a) ∨ (n = 1 ∧ r = b) ∨ (n = 2 ∧ r = d)) (ha : P a) (hb : P b) (hd : P d) : P r := by
  rcases q with ⟨_, q⟩ | ⟨_, q⟩ | ⟨_, q⟩
  · rw [q]; exact ha
  · rw [q]; exact hb
  · rw [q]; exact hd
theorem own_iff {n k : Int32} {r t a b d : Addr} (q : (n = 0 ∧ r = a) ∨ (n = 1 ∧ r = b) ∨ (n = 2 ∧ r = d)) (g : (k = 0 ∧ t = a) ∨ (k = 1 ∧ t = b) ∨ (k = 2 ∧ t = d)) (n1 : a ≠ b) (n2 : a ≠ d) (n3 : b ≠ d) : r = t ↔ n = k := by
  rcases q with ⟨q, e⟩ | ⟨q, e⟩ | ⟨q, e⟩ <;> rcases g with ⟨g, f⟩ | ⟨g, f⟩ | ⟨g, f⟩ <;> subst q g e f
  · exact ⟨fun _ => rfl, fun _ => rfl⟩
  · exact ⟨fun h => absurd h n1, fun h => absurd h (by decide)⟩
  · exact ⟨fun h => absurd h n2, fun h => absurd h (by decide)⟩
  · exact ⟨fun h => absurd h.symm n1, fun h => absurd h (by decide)⟩
  · exact ⟨fun _ => rfl, fun _ => rfl⟩
  · exact ⟨fun h => absurd h n3, fun h => absurd h (by decide)⟩
  · exact ⟨fun h => absurd h.symm n2, fun h => absurd h (by decide)⟩
  · exact ⟨fun h => absurd h.symm n3, fun h => absurd h (by decide)⟩
  · exact ⟨fun _ => rfl, fun _ => rfl⟩
theorem own_no3 {n : Int32} (h : n = 0 ∨ n = 1 ∨ n = 2) : ¬ n = (3 : Int32) := by rcases h with rfl | rfl | rfl <;> decide
theorem own_not3 {n : Int32} (h : n = 0 ∨ n = 1 ∨ n = 2 ∨ n = 3) (h3 : ¬ n = 3) : n = 0 ∨ n = 1 ∨ n = 2 := by
  rcases h with h | h | h | h
  · exact Or.inl h
  · exact Or.inr (Or.inl h)
  · exact Or.inr (Or.inr h)
  · exact absurd h h3
theorem own_iteq {p q : Prop} [Decidable p] [Decidable q] {a b b' : Int32} (h : p ↔ q) (e : b = b') : (if p then a else b) = (if q then a else b') := by
  subst e
  by_cases g : p
  · rw [if_pos g, if_pos (h.mp g)]
  · rw [if_neg g, if_neg (fun k => g (h.mpr k))]

theorem ef2 (m : MethodId) (x0 : Addr) (x1 : Addr) (x2 : Int64) (x3 : Int64) (x4 : UInt64) (x5 : UInt64) : entryFrame m #[(.ref x0), (.ref x1), (.long x2), (.long x3), (.double x4), (.double x5)] 10 = mkF m 0 #[.val (.ref x0), .val (.ref x1), .val (.long x2), .second, .val (.long x3), .second, .val (.double x4), .second, .val (.double x5), .second] [] := by first | (simp [entryFrame, mkF, argsToLocals, Value.category]; done) | rfl
def Q2 (Z : State) (o0 : Addr) (o1 : Addr) (p2 : Int64) (p3 : Int64) (f4 : UInt64) (f5 : UInt64) (u_vehicle_o0 : Value) (from_o0 : Int64) (to_o0 : Int64) (depart_o0 : UInt64) (maxSpeed_o0 : UInt64) (h0 : Heap) (n0 : Nat) (v : Option Value) (h : Heap) (L : List Loc) : Prop := v = none ∧ Fr n0 L ∧ Keep h0 h [o0] ∧ Exa Z h o0 "com/example/phlow/phlow/demand/Trip" ∧ Fld Z h o0 "com/example/phlow/phlow/demand/Trip" "vehicle" "Ljava/lang/String;" (.ref o1) ∧ Fld Z h o0 "com/example/phlow/phlow/demand/Trip" "from" "J" (.long p2) ∧ Fld Z h o0 "com/example/phlow/phlow/demand/Trip" "to" "J" (.long p3) ∧ Fld Z h o0 "com/example/phlow/phlow/demand/Trip" "depart" "D" (.double f4) ∧ Fld Z h o0 "com/example/phlow/phlow/demand/Trip" "maxSpeed" "D" (.double f5)
set_option maxRecDepth 65536 in
set_option maxHeartbeats 40000000 in
theorem rm2 (l : Launch) (Z : State) (a0 : Array Value) (hw : ∀ d ∈ tables_1, d.before a0 Z = true) (ws : List Jvm.Cond) (o0 : Addr) (o1 : Addr) (p2 : Int64) (p3 : Int64) (f4 : UInt64) (f5 : UInt64) (u_vehicle_o0 : Value) (from_o0 : Int64) (to_o0 : Int64) (depart_o0 : UInt64) (maxSpeed_o0 : UInt64) (h0 : Heap) (n0 : Nat) (Z0 : n0 ≤ h0.size) (F_o0_vehicle : Fld Z h0 o0 "com/example/phlow/phlow/demand/Trip" "vehicle" "Ljava/lang/String;" u_vehicle_o0) (F_o0_from : Fld Z h0 o0 "com/example/phlow/phlow/demand/Trip" "from" "J" (.long from_o0)) (F_o0_to : Fld Z h0 o0 "com/example/phlow/phlow/demand/Trip" "to" "J" (.long to_o0)) (F_o0_depart : Fld Z h0 o0 "com/example/phlow/phlow/demand/Trip" "depart" "D" (.double depart_o0)) (F_o0_maxSpeed : Fld Z h0 o0 "com/example/phlow/phlow/demand/Trip" "maxSpeed" "D" (.double maxSpeed_o0)) (E_o0 : Exa Z h0 o0 "com/example/phlow/phlow/demand/Trip") (g_o0 : n0 ≤ o0) :
    MetFree l (⟨"com/example/phlow/phlow/demand/Trip", "<init>", "(Ljava/lang/String;JJDD)V"⟩ : MethodName) (head1 (Jvm.Cond.code (⟨"com/example/phlow/phlow/demand/Trip", "<init>", "(Ljava/lang/String;JJDD)V"⟩ : MethodName) prog_1_method_2_code 10 none :: ws) ({ frames := 1, cells := 0, slots := 0, locals := 12 } : Room)) (fun a U => a = #[(.ref o0), (.ref o1), (.long p2), (.long p3), (.double f4), (.double f5)] ∧ Z.Warmed39 U.vm ∧ U.heap = h0) (fun _ _ _ _ _ => True) (fun _ U o U' => ∃ v L, o = .returned v ∧ Q2 Z o0 o1 p2 p3 f4 f5 u_vehicle_o0 from_o0 to_o0 depart_o0 maxSpeed_o0 h0 n0 v U'.heap L ∧ FrameEnd U o U' L ({ frames := 1, cells := 0, slots := 0, locals := 12 } : Room).cells ({ frames := 1, cells := 0, slots := 0, locals := 12 } : Room).slots) := by
  refine MetFree.of_bodySF (plainFor_of_name pn_com_example_phlow_phlow_demand_Trip) hisR ?_
  intro p e s m args below meth c s₁ Bd hml0 hP hK
  obtain ⟨rfl, hZ, hhp⟩ := hP
  have hx := Bd.exec
  have hby := Bd.bytes
  have hml : c.maxLocals = 10 := hml0
  have hown : s.vm.findClass "com/example/phlow/phlow/demand/Trip" = some m.cls := findClass_of_methodNamed Bd.named
  have hnm := (name_of_methodNamed Bd.named Bd.method).1
  have X0 : Stand p l e ({ frames := 1, cells := 0, slots := 0, locals := 12 } : Room) s m #[(.ref o0), (.ref o1), (.long p2), (.long p3), (.double f4), (.double f5)] below meth c s₁ [] 0 0 := Stand.of_body Bd
  have eH0 : s₁.heap = h0 := by rw [← hhp, Bd.state]; rfl
  have N0 := Fr.nil n0
  have K0 := Keep.refl h0 [o0]
  show Gt p.tables e below (fun o U' => ∃ v L, o = .returned v ∧ Q2 Z o0 o1 p2 p3 f4 f5 u_vehicle_o0 from_o0 to_o0 depart_o0 maxSpeed_o0 h0 n0 v U'.heap L ∧ FrameEnd s o U' L ({ frames := 1, cells := 0, slots := 0, locals := 12 } : Room).cells ({ frames := 1, cells := 0, slots := 0, locals := 12 } : Room).slots) _
  refine own_cast (ef2 m o0 o1 p2 p3 f4 f5) ?_
  refine own_aloadN X0 hx hby rfl rfl d2_0 (pc' := 1) rfl ?_
  refine own_initO X0 hx hby hZ hown (hw _ (List.mem_of_getElem? (i := 19) rfl)) (hw _ (List.mem_of_getElem? (i := 20) rfl)) (hw _ (List.mem_of_getElem? (i := 21) rfl)) eH0 (by rw [hml]; rfl) d2_1 (pc' := 4) rfl (by decide) (W := 0) (Nat.le_of_eq rfl) (by decide) (fun T1 X1 eH1 => ?_)
  refine own_aloadN X1 hx hby rfl rfl d2_4 (pc' := 5) rfl ?_
  refine own_aloadN X1 hx hby rfl rfl d2_5 (pc' := 6) rfl ?_
  refine own_putF X1 hx hby hZ hown (host := "") (Or.inl (hw _ (List.mem_of_getElem? (i := 22) rfl))) Via.refl eH1 F_o0_vehicle E_o0 (Or.inr ⟨(hw _ (List.mem_of_getElem? (i := 23) rfl)), rfl, hnm⟩) (hw _ (List.mem_of_getElem? (i := 2) rfl)) (ty := (.object "java/lang/String")) (by decide) rfl rfl d2_6 (pc' := 9) rfl (fun T2 h2 X2 eH2 W2 => ?_)
  replace E_o0 := E_o0.wr W2
  replace F_o0_vehicle := F_o0_vehicle.same W2
  replace F_o0_from := F_o0_from.other W2 (Or.inr (slot_ne (Or.inr (hw _ (List.mem_of_getElem? (i := 25) rfl))) (Or.inr (hw _ (List.mem_of_getElem? (i := 23) rfl))) (by decide) (t := .long) (t' := (.object "java/lang/String")) (by decide) (by decide)))
  replace F_o0_to := F_o0_to.other W2 (Or.inr (slot_ne (Or.inr (hw _ (List.mem_of_getElem? (i := 27) rfl))) (Or.inr (hw _ (List.mem_of_getElem? (i := 23) rfl))) (by decide) (t := .long) (t' := (.object "java/lang/String")) (by decide) (by decide)))
  replace F_o0_depart := F_o0_depart.other W2 (Or.inr (slot_ne (Or.inr (hw _ (List.mem_of_getElem? (i := 29) rfl))) (Or.inr (hw _ (List.mem_of_getElem? (i := 23) rfl))) (by decide) (t := .double) (t' := (.object "java/lang/String")) (by decide) (by decide)))
  replace F_o0_maxSpeed := F_o0_maxSpeed.other W2 (Or.inr (slot_ne (Or.inr (hw _ (List.mem_of_getElem? (i := 31) rfl))) (Or.inr (hw _ (List.mem_of_getElem? (i := 23) rfl))) (by decide) (t := .double) (t' := (.object "java/lang/String")) (by decide) (by decide)))
  have N2 := Fr.snoc X2 N0 g_o0
  replace K0 := K0.wr W2 (Or.inl (by simp))
  replace Z0 := Nat.le_trans Z0 (Nat.le_of_eq W2.size.symm)
  refine own_aloadN X2 hx hby rfl rfl d2_9 (pc' := 10) rfl ?_
  refine own_lloadN X2 hx hby rfl d2_10 (pc' := 11) rfl ?_
  refine own_putF X2 hx hby hZ hown (host := "") (Or.inl (hw _ (List.mem_of_getElem? (i := 24) rfl))) Via.refl eH2 F_o0_from E_o0 (Or.inr ⟨(hw _ (List.mem_of_getElem? (i := 25) rfl)), rfl, hnm⟩) (hw _ (List.mem_of_getElem? (i := 2) rfl)) (ty := .long) (by decide) rfl rfl d2_11 (pc' := 14) rfl (fun T3 h3 X3 eH3 W3 => ?_)
  replace E_o0 := E_o0.wr W3
  replace F_o0_vehicle := F_o0_vehicle.other W3 (Or.inr (slot_ne (Or.inr (hw _ (List.mem_of_getElem? (i := 23) rfl))) (Or.inr (hw _ (List.mem_of_getElem? (i := 25) rfl))) (by decide) (t := (.object "java/lang/String")) (t' := .long) (by decide) (by decide)))
  replace F_o0_from := F_o0_from.same W3
  replace F_o0_to := F_o0_to.other W3 (Or.inr (slot_ne (Or.inr (hw _ (List.mem_of_getElem? (i := 27) rfl))) (Or.inr (hw _ (List.mem_of_getElem? (i := 25) rfl))) (by decide) (t := .long) (t' := .long) (by decide) (by decide)))
  replace F_o0_depart := F_o0_depart.other W3 (Or.inr (slot_ne (Or.inr (hw _ (List.mem_of_getElem? (i := 29) rfl))) (Or.inr (hw _ (List.mem_of_getElem? (i := 25) rfl))) (by decide) (t := .double) (t' := .long) (by decide) (by decide)))
  replace F_o0_maxSpeed := F_o0_maxSpeed.other W3 (Or.inr (slot_ne (Or.inr (hw _ (List.mem_of_getElem? (i := 31) rfl))) (Or.inr (hw _ (List.mem_of_getElem? (i := 25) rfl))) (by decide) (t := .double) (t' := .long) (by decide) (by decide)))
  have N3 := Fr.snoc X3 N2 g_o0
  replace K0 := K0.wr W3 (Or.inl (by simp))
  replace Z0 := Nat.le_trans Z0 (Nat.le_of_eq W3.size.symm)
  refine own_aloadN X3 hx hby rfl rfl d2_14 (pc' := 15) rfl ?_
  refine own_lload X3 hx hby rfl d2_15 (pc' := 17) rfl ?_
  refine own_putF X3 hx hby hZ hown (host := "") (Or.inl (hw _ (List.mem_of_getElem? (i := 26) rfl))) Via.refl eH3 F_o0_to E_o0 (Or.inr ⟨(hw _ (List.mem_of_getElem? (i := 27) rfl)), rfl, hnm⟩) (hw _ (List.mem_of_getElem? (i := 2) rfl)) (ty := .long) (by decide) rfl rfl d2_17 (pc' := 20) rfl (fun T4 h4 X4 eH4 W4 => ?_)
  replace E_o0 := E_o0.wr W4
  replace F_o0_vehicle := F_o0_vehicle.other W4 (Or.inr (slot_ne (Or.inr (hw _ (List.mem_of_getElem? (i := 23) rfl))) (Or.inr (hw _ (List.mem_of_getElem? (i := 27) rfl))) (by decide) (t := (.object "java/lang/String")) (t' := .long) (by decide) (by decide)))
  replace F_o0_from := F_o0_from.other W4 (Or.inr (slot_ne (Or.inr (hw _ (List.mem_of_getElem? (i := 25) rfl))) (Or.inr (hw _ (List.mem_of_getElem? (i := 27) rfl))) (by decide) (t := .long) (t' := .long) (by decide) (by decide)))
  replace F_o0_to := F_o0_to.same W4
  replace F_o0_depart := F_o0_depart.other W4 (Or.inr (slot_ne (Or.inr (hw _ (List.mem_of_getElem? (i := 29) rfl))) (Or.inr (hw _ (List.mem_of_getElem? (i := 27) rfl))) (by decide) (t := .double) (t' := .long) (by decide) (by decide)))
  replace F_o0_maxSpeed := F_o0_maxSpeed.other W4 (Or.inr (slot_ne (Or.inr (hw _ (List.mem_of_getElem? (i := 31) rfl))) (Or.inr (hw _ (List.mem_of_getElem? (i := 27) rfl))) (by decide) (t := .double) (t' := .long) (by decide) (by decide)))
  have N4 := Fr.snoc X4 N3 g_o0
  replace K0 := K0.wr W4 (Or.inl (by simp))
  replace Z0 := Nat.le_trans Z0 (Nat.le_of_eq W4.size.symm)
  refine own_aloadN X4 hx hby rfl rfl d2_20 (pc' := 21) rfl ?_
  refine own_dload X4 hx hby rfl d2_21 (pc' := 23) rfl ?_
  refine own_putF X4 hx hby hZ hown (host := "") (Or.inl (hw _ (List.mem_of_getElem? (i := 28) rfl))) Via.refl eH4 F_o0_depart E_o0 (Or.inr ⟨(hw _ (List.mem_of_getElem? (i := 29) rfl)), rfl, hnm⟩) (hw _ (List.mem_of_getElem? (i := 2) rfl)) (ty := .double) (by decide) rfl rfl d2_23 (pc' := 26) rfl (fun T5 h5 X5 eH5 W5 => ?_)
  replace E_o0 := E_o0.wr W5
  replace F_o0_vehicle := F_o0_vehicle.other W5 (Or.inr (slot_ne (Or.inr (hw _ (List.mem_of_getElem? (i := 23) rfl))) (Or.inr (hw _ (List.mem_of_getElem? (i := 29) rfl))) (by decide) (t := (.object "java/lang/String")) (t' := .double) (by decide) (by decide)))
  replace F_o0_from := F_o0_from.other W5 (Or.inr (slot_ne (Or.inr (hw _ (List.mem_of_getElem? (i := 25) rfl))) (Or.inr (hw _ (List.mem_of_getElem? (i := 29) rfl))) (by decide) (t := .long) (t' := .double) (by decide) (by decide)))
  replace F_o0_to := F_o0_to.other W5 (Or.inr (slot_ne (Or.inr (hw _ (List.mem_of_getElem? (i := 27) rfl))) (Or.inr (hw _ (List.mem_of_getElem? (i := 29) rfl))) (by decide) (t := .long) (t' := .double) (by decide) (by decide)))
  replace F_o0_depart := F_o0_depart.same W5
  replace F_o0_maxSpeed := F_o0_maxSpeed.other W5 (Or.inr (slot_ne (Or.inr (hw _ (List.mem_of_getElem? (i := 31) rfl))) (Or.inr (hw _ (List.mem_of_getElem? (i := 29) rfl))) (by decide) (t := .double) (t' := .double) (by decide) (by decide)))
  have N5 := Fr.snoc X5 N4 g_o0
  replace K0 := K0.wr W5 (Or.inl (by simp))
  replace Z0 := Nat.le_trans Z0 (Nat.le_of_eq W5.size.symm)
  refine own_aloadN X5 hx hby rfl rfl d2_26 (pc' := 27) rfl ?_
  refine own_dload X5 hx hby rfl d2_27 (pc' := 29) rfl ?_
  refine own_putF X5 hx hby hZ hown (host := "") (Or.inl (hw _ (List.mem_of_getElem? (i := 30) rfl))) Via.refl eH5 F_o0_maxSpeed E_o0 (Or.inr ⟨(hw _ (List.mem_of_getElem? (i := 31) rfl)), rfl, hnm⟩) (hw _ (List.mem_of_getElem? (i := 2) rfl)) (ty := .double) (by decide) rfl rfl d2_29 (pc' := 32) rfl (fun T6 h6 X6 eH6 W6 => ?_)
  replace E_o0 := E_o0.wr W6
  replace F_o0_vehicle := F_o0_vehicle.other W6 (Or.inr (slot_ne (Or.inr (hw _ (List.mem_of_getElem? (i := 23) rfl))) (Or.inr (hw _ (List.mem_of_getElem? (i := 31) rfl))) (by decide) (t := (.object "java/lang/String")) (t' := .double) (by decide) (by decide)))
  replace F_o0_from := F_o0_from.other W6 (Or.inr (slot_ne (Or.inr (hw _ (List.mem_of_getElem? (i := 25) rfl))) (Or.inr (hw _ (List.mem_of_getElem? (i := 31) rfl))) (by decide) (t := .long) (t' := .double) (by decide) (by decide)))
  replace F_o0_to := F_o0_to.other W6 (Or.inr (slot_ne (Or.inr (hw _ (List.mem_of_getElem? (i := 27) rfl))) (Or.inr (hw _ (List.mem_of_getElem? (i := 31) rfl))) (by decide) (t := .long) (t' := .double) (by decide) (by decide)))
  replace F_o0_depart := F_o0_depart.other W6 (Or.inr (slot_ne (Or.inr (hw _ (List.mem_of_getElem? (i := 29) rfl))) (Or.inr (hw _ (List.mem_of_getElem? (i := 31) rfl))) (by decide) (t := .double) (t' := .double) (by decide) (by decide)))
  replace F_o0_maxSpeed := F_o0_maxSpeed.same W6
  have N6 := Fr.snoc X6 N5 g_o0
  replace K0 := K0.wr W6 (Or.inl (by simp))
  replace Z0 := Nat.le_trans Z0 (Nat.le_of_eq W6.size.symm)
  exact own_retV X6 hx hby Bd.notSynchronized Bd.returns d2_32 (by decide) (by decide) eH6 ⟨rfl, N6, K0, E_o0, F_o0_vehicle, F_o0_from, F_o0_to, F_o0_depart, F_o0_maxSpeed⟩
theorem ef1 (m : MethodId) (x0 : Addr) (x1 : Addr) (x2 : Int64) (x3 : Int64) (x4 : UInt64) : entryFrame m #[(.ref x0), (.ref x1), (.long x2), (.long x3), (.double x4)] 8 = mkF m 0 #[.val (.ref x0), .val (.ref x1), .val (.long x2), .second, .val (.long x3), .second, .val (.double x4), .second] [] := by first | (simp [entryFrame, mkF, argsToLocals, Value.category]; done) | rfl
def Q1 (Z : State) (o0 : Addr) (o1 : Addr) (p2 : Int64) (p3 : Int64) (f4 : UInt64) (u_vehicle_o0 : Value) (from_o0 : Int64) (to_o0 : Int64) (depart_o0 : UInt64) (maxSpeed_o0 : UInt64) (h0 : Heap) (n0 : Nat) (v : Option Value) (h : Heap) (L : List Loc) : Prop := v = none ∧ Fr n0 L ∧ Keep h0 h [o0] ∧ Exa Z h o0 "com/example/phlow/phlow/demand/Trip" ∧ Fld Z h o0 "com/example/phlow/phlow/demand/Trip" "vehicle" "Ljava/lang/String;" (.ref o1) ∧ Fld Z h o0 "com/example/phlow/phlow/demand/Trip" "from" "J" (.long p2) ∧ Fld Z h o0 "com/example/phlow/phlow/demand/Trip" "to" "J" (.long p3) ∧ Fld Z h o0 "com/example/phlow/phlow/demand/Trip" "depart" "D" (.double f4) ∧ Fld Z h o0 "com/example/phlow/phlow/demand/Trip" "maxSpeed" "D" (.double (9218868437227405312 : UInt64))
set_option maxRecDepth 65536 in
set_option maxHeartbeats 40000000 in
theorem rm1 (l : Launch) (Z : State) (a0 : Array Value) (hw : ∀ d ∈ tables_1, d.before a0 Z = true) (ws : List Jvm.Cond) (o0 : Addr) (o1 : Addr) (p2 : Int64) (p3 : Int64) (f4 : UInt64) (u_vehicle_o0 : Value) (from_o0 : Int64) (to_o0 : Int64) (depart_o0 : UInt64) (maxSpeed_o0 : UInt64) (h0 : Heap) (n0 : Nat) (Z0 : n0 ≤ h0.size) (F_o0_vehicle : Fld Z h0 o0 "com/example/phlow/phlow/demand/Trip" "vehicle" "Ljava/lang/String;" u_vehicle_o0) (F_o0_from : Fld Z h0 o0 "com/example/phlow/phlow/demand/Trip" "from" "J" (.long from_o0)) (F_o0_to : Fld Z h0 o0 "com/example/phlow/phlow/demand/Trip" "to" "J" (.long to_o0)) (F_o0_depart : Fld Z h0 o0 "com/example/phlow/phlow/demand/Trip" "depart" "D" (.double depart_o0)) (F_o0_maxSpeed : Fld Z h0 o0 "com/example/phlow/phlow/demand/Trip" "maxSpeed" "D" (.double maxSpeed_o0)) (E_o0 : Exa Z h0 o0 "com/example/phlow/phlow/demand/Trip") (g_o0 : n0 ≤ o0) :
    MetFree l (⟨"com/example/phlow/phlow/demand/Trip", "<init>", "(Ljava/lang/String;JJD)V"⟩ : MethodName) (head1 (Jvm.Cond.code (⟨"com/example/phlow/phlow/demand/Trip", "<init>", "(Ljava/lang/String;JJD)V"⟩ : MethodName) prog_1_method_1_code 8 none :: ws) ({ frames := 2, cells := 0, slots := 0, locals := 33 } : Room)) (fun a U => a = #[(.ref o0), (.ref o1), (.long p2), (.long p3), (.double f4)] ∧ Z.Warmed39 U.vm ∧ U.heap = h0) (fun _ _ _ _ _ => True) (fun _ U o U' => ∃ v L, o = .returned v ∧ Q1 Z o0 o1 p2 p3 f4 u_vehicle_o0 from_o0 to_o0 depart_o0 maxSpeed_o0 h0 n0 v U'.heap L ∧ FrameEnd U o U' L ({ frames := 2, cells := 0, slots := 0, locals := 33 } : Room).cells ({ frames := 2, cells := 0, slots := 0, locals := 33 } : Room).slots) := by
  refine MetFree.of_bodySF (plainFor_of_name pn_com_example_phlow_phlow_demand_Trip) hisR ?_
  intro p e s m args below meth c s₁ Bd hml0 hP hK
  obtain ⟨rfl, hZ, hhp⟩ := hP
  have hx := Bd.exec
  have hby := Bd.bytes
  have hml : c.maxLocals = 8 := hml0
  have hown : s.vm.findClass "com/example/phlow/phlow/demand/Trip" = some m.cls := findClass_of_methodNamed Bd.named
  have hnm := (name_of_methodNamed Bd.named Bd.method).1
  have X0 : Stand p l e ({ frames := 2, cells := 0, slots := 0, locals := 33 } : Room) s m #[(.ref o0), (.ref o1), (.long p2), (.long p3), (.double f4)] below meth c s₁ [] 0 0 := Stand.of_body Bd
  have eH0 : s₁.heap = h0 := by rw [← hhp, Bd.state]; rfl
  have N0 := Fr.nil n0
  have K0 := Keep.refl h0 [o0]
  show Gt p.tables e below (fun o U' => ∃ v L, o = .returned v ∧ Q1 Z o0 o1 p2 p3 f4 u_vehicle_o0 from_o0 to_o0 depart_o0 maxSpeed_o0 h0 n0 v U'.heap L ∧ FrameEnd s o U' L ({ frames := 2, cells := 0, slots := 0, locals := 33 } : Room).cells ({ frames := 2, cells := 0, slots := 0, locals := 33 } : Room).slots) _
  refine own_cast (ef1 m o0 o1 p2 p3 f4) ?_
  refine own_aloadN X0 hx hby rfl rfl d1_0 (pc' := 1) rfl ?_
  refine own_aloadN X0 hx hby rfl rfl d1_1 (pc' := 2) rfl ?_
  refine own_lloadN X0 hx hby rfl d1_2 (pc' := 3) rfl ?_
  refine own_lload X0 hx hby rfl d1_3 (pc' := 5) rfl ?_
  refine own_dload X0 hx hby rfl d1_5 (pc' := 7) rfl ?_
  refine own_ldc2D X0 hx hby hZ hown (hw _ (List.mem_of_getElem? (i := 15) rfl)) d1_7 (pc' := 10) rfl ?_
  refine own_special X0 hx hby hZ (y := (⟨"com/example/phlow/phlow/demand/Trip", "<init>", "(Ljava/lang/String;JJDD)V"⟩ : MethodName)) (rest := []) rfl hown (hw _ (List.mem_of_getElem? (i := 16) rfl)) (hw _ (List.mem_of_getElem? (i := 17) rfl)) rfl (hw _ (List.mem_of_getElem? (i := 18) rfl)) (hw _ (List.mem_of_getElem? (i := 3) rfl)) (by decide) (rm2 l Z a0 hw [] o0 o1 p2 p3 f4 (9218868437227405312 : UInt64) u_vehicle_o0 from_o0 to_o0 depart_o0 maxSpeed_o0 h0 n0 Z0 F_o0_vehicle F_o0_from F_o0_to F_o0_depart F_o0_maxSpeed E_o0 g_o0) eH0 (by rw [hml]; rfl) (a := o0) (argsL := [(.ref o1), (.long p2), (.long p3), (.double f4), (.double (9218868437227405312 : UInt64))]) rfl (lenOf pd_0 rfl) rfl d1_10 (pc' := 13) rfl (by decide) (W := 0) (Nat.le_of_eq rfl) (by decide) (by decide) (by decide) (fun T1 h1 Lc1 v1r X1 eH1 hQ1 => ?_)
  obtain ⟨rfl, Nq1, Kq1, gq1_0, gq1_1, gq1_2, gq1_3, gq1_4, gq1_5⟩ := hQ1
  have N1 := Fr.app N0 Nq1
  replace E_o0 := E_o0.keep Kq1
  replace K0 := K0.trans Kq1 (allS (Or.inl (by simp)) all0)
  have E_o0 := gq1_0
  have F_o0_vehicle := gq1_1
  have F_o0_from := gq1_2
  have F_o0_to := gq1_3
  have F_o0_depart := gq1_4
  have F_o0_maxSpeed := gq1_5
  replace Z0 := Nat.le_trans Z0 Kq1.1
  exact own_retV X1 hx hby Bd.notSynchronized Bd.returns d1_13 (by decide) (by decide) eH1 ⟨rfl, N1, K0, E_o0, F_o0_vehicle, F_o0_from, F_o0_to, F_o0_depart, F_o0_maxSpeed⟩
theorem ef5 (m : MethodId) (x0 : Addr) : entryFrame m #[(.ref x0)] 1 = mkF m 0 #[.val (.ref x0)] [] := by first | (simp [entryFrame, mkF, argsToLocals, Value.category]; done) | rfl
def Q5 (Z : State) (o0 : Addr) (vehicle_o0 : Addr) (h0 : Heap) (n0 : Nat) (v : Option Value) (h : Heap) (L : List Loc) : Prop := v = some (.ref vehicle_o0) ∧ Fr n0 L ∧ h0 = h
set_option maxRecDepth 65536 in
set_option maxHeartbeats 40000000 in
theorem rm5 (l : Launch) (Z : State) (a0 : Array Value) (hw : ∀ d ∈ tables_1, d.before a0 Z = true) (ws : List Jvm.Cond) (o0 : Addr) (vehicle_o0 : Addr) (h0 : Heap) (n0 : Nat) (Z0 : n0 ≤ h0.size) (F_o0_vehicle : Fld Z h0 o0 "com/example/phlow/phlow/demand/Trip" "vehicle" "Ljava/lang/String;" (.ref vehicle_o0)) :
    MetFree l (⟨"com/example/phlow/phlow/demand/Trip", "vehicle", "()Ljava/lang/String;"⟩ : MethodName) (head1 (Jvm.Cond.code (⟨"com/example/phlow/phlow/demand/Trip", "vehicle", "()Ljava/lang/String;"⟩ : MethodName) prog_1_method_3_code 1 (some (.object "java/lang/String")) :: ws) ({ frames := 0, cells := 0, slots := 0, locals := 0 } : Room)) (fun a U => a = #[(.ref o0)] ∧ Z.Warmed39 U.vm ∧ U.heap = h0) (fun _ _ _ _ _ => True) (fun _ U o U' => ∃ v L, o = .returned v ∧ Q5 Z o0 vehicle_o0 h0 n0 v U'.heap L ∧ FrameEnd U o U' L ({ frames := 0, cells := 0, slots := 0, locals := 0 } : Room).cells ({ frames := 0, cells := 0, slots := 0, locals := 0 } : Room).slots) := by
  refine MetFree.of_bodySF (plainFor_of_name pn_com_example_phlow_phlow_demand_Trip) hisR ?_
  intro p e s m args below meth c s₁ Bd hml0 hP hK
  obtain ⟨rfl, hZ, hhp⟩ := hP
  have hx := Bd.exec
  have hby := Bd.bytes
  have hml : c.maxLocals = 1 := hml0
  have hown : s.vm.findClass "com/example/phlow/phlow/demand/Trip" = some m.cls := findClass_of_methodNamed Bd.named
  have hnm := (name_of_methodNamed Bd.named Bd.method).1
  have X0 : Stand p l e ({ frames := 0, cells := 0, slots := 0, locals := 0 } : Room) s m #[(.ref o0)] below meth c s₁ [] 0 0 := Stand.of_body Bd
  have eH0 : s₁.heap = h0 := by rw [← hhp, Bd.state]; rfl
  have N0 := Fr.nil n0
  show Gt p.tables e below (fun o U' => ∃ v L, o = .returned v ∧ Q5 Z o0 vehicle_o0 h0 n0 v U'.heap L ∧ FrameEnd s o U' L ({ frames := 0, cells := 0, slots := 0, locals := 0 } : Room).cells ({ frames := 0, cells := 0, slots := 0, locals := 0 } : Room).slots) _
  refine own_cast (ef5 m o0) ?_
  refine own_aloadN X0 hx hby rfl rfl d5_0 (pc' := 1) rfl ?_
  refine own_getF X0 hx hby hZ hown (host := "") (Or.inl (hw _ (List.mem_of_getElem? (i := 22) rfl))) Via.refl eH0 F_o0_vehicle d5_1 (pc' := 4) rfl (fun T1 X1 eH1 => ?_)
  exact own_retA X1 hx hby Bd.notSynchronized Bd.returns rfl rfl d5_4 (by decide) (by decide) eH1 ⟨rfl, N0, rfl⟩
theorem ef6 (m : MethodId) (x0 : Addr) : entryFrame m #[(.ref x0)] 1 = mkF m 0 #[.val (.ref x0)] [] := by first | (simp [entryFrame, mkF, argsToLocals, Value.category]; done) | rfl
def Q6 (Z : State) (o0 : Addr) (maxSpeed_o0 : UInt64) (h0 : Heap) (n0 : Nat) (v : Option Value) (h : Heap) (L : List Loc) : Prop := v = some (.double maxSpeed_o0) ∧ Fr n0 L ∧ h0 = h
set_option maxRecDepth 65536 in
set_option maxHeartbeats 40000000 in
theorem rm6 (l : Launch) (Z : State) (a0 : Array Value) (hw : ∀ d ∈ tables_1, d.before a0 Z = true) (ws : List Jvm.Cond) (o0 : Addr) (maxSpeed_o0 : UInt64) (h0 : Heap) (n0 : Nat) (Z0 : n0 ≤ h0.size) (F_o0_maxSpeed : Fld Z h0 o0 "com/example/phlow/phlow/demand/Trip" "maxSpeed" "D" (.double maxSpeed_o0)) :
    MetFree l (⟨"com/example/phlow/phlow/demand/Trip", "maxSpeed", "()D"⟩ : MethodName) (head1 (Jvm.Cond.code (⟨"com/example/phlow/phlow/demand/Trip", "maxSpeed", "()D"⟩ : MethodName) prog_1_method_7_code 1 (some .double) :: ws) ({ frames := 0, cells := 0, slots := 0, locals := 0 } : Room)) (fun a U => a = #[(.ref o0)] ∧ Z.Warmed39 U.vm ∧ U.heap = h0) (fun _ _ _ _ _ => True) (fun _ U o U' => ∃ v L, o = .returned v ∧ Q6 Z o0 maxSpeed_o0 h0 n0 v U'.heap L ∧ FrameEnd U o U' L ({ frames := 0, cells := 0, slots := 0, locals := 0 } : Room).cells ({ frames := 0, cells := 0, slots := 0, locals := 0 } : Room).slots) := by
  refine MetFree.of_bodySF (plainFor_of_name pn_com_example_phlow_phlow_demand_Trip) hisR ?_
  intro p e s m args below meth c s₁ Bd hml0 hP hK
  obtain ⟨rfl, hZ, hhp⟩ := hP
  have hx := Bd.exec
  have hby := Bd.bytes
  have hml : c.maxLocals = 1 := hml0
  have hown : s.vm.findClass "com/example/phlow/phlow/demand/Trip" = some m.cls := findClass_of_methodNamed Bd.named
  have hnm := (name_of_methodNamed Bd.named Bd.method).1
  have X0 : Stand p l e ({ frames := 0, cells := 0, slots := 0, locals := 0 } : Room) s m #[(.ref o0)] below meth c s₁ [] 0 0 := Stand.of_body Bd
  have eH0 : s₁.heap = h0 := by rw [← hhp, Bd.state]; rfl
  have N0 := Fr.nil n0
  show Gt p.tables e below (fun o U' => ∃ v L, o = .returned v ∧ Q6 Z o0 maxSpeed_o0 h0 n0 v U'.heap L ∧ FrameEnd s o U' L ({ frames := 0, cells := 0, slots := 0, locals := 0 } : Room).cells ({ frames := 0, cells := 0, slots := 0, locals := 0 } : Room).slots) _
  refine own_cast (ef6 m o0) ?_
  refine own_aloadN X0 hx hby rfl rfl d6_0 (pc' := 1) rfl ?_
  refine own_getF X0 hx hby hZ hown (host := "") (Or.inl (hw _ (List.mem_of_getElem? (i := 30) rfl))) Via.refl eH0 F_o0_maxSpeed d6_1 (pc' := 4) rfl (fun T1 X1 eH1 => ?_)
  exact own_retD X1 hx hby Bd.notSynchronized Bd.returns d6_4 (by decide) (by decide) eH1 ⟨rfl, N0, rfl⟩
theorem ef4 (m : MethodId) (x0 : Addr) (x1 : Addr) (x2 : Addr) : entryFrame m #[(.ref x0), (.ref x1), (.ref x2)] 3 = mkF m 0 #[.val (.ref x0), .val (.ref x1), .val (.ref x2)] [] := by first | (simp [entryFrame, mkF, argsToLocals, Value.category]; done) | rfl
def Q4 (Z : State) (o0 : Addr) (o1 : Addr) (o2 : Addr) (departedAt_o0 : UInt64) (arrivedAt_o0 : UInt64) (u_trip_o0 : Value) (u_id_o0 : Value) (maxSpeed_o0 : UInt64) (u_route_o0 : Value) (link_o0 : Int32) (nextLink_o0 : Int32) (pos_o0 : UInt64) (vehicle_o1 : Addr) (maxSpeed_o1 : UInt64) (h0 : Heap) (n0 : Nat) (v : Option Value) (h : Heap) (L : List Loc) : Prop := ∃ b9 : Addr, v = none ∧ Fr n0 L ∧ Keep h0 h [o0] ∧ h0.size ≤ b9 ∧ Exa Z h o0 "com/example/phlow/phlow/engine/Vehicle" ∧ Fld Z h o0 "com/example/phlow/phlow/engine/Vehicle" "departedAt" "D" (.double (9221120237041090560 : UInt64)) ∧ Fld Z h o0 "com/example/phlow/phlow/engine/Vehicle" "arrivedAt" "D" (.double (9221120237041090560 : UInt64)) ∧ Fld Z h o0 "com/example/phlow/phlow/engine/Vehicle" "trip" "Lcom/example/phlow/phlow/demand/Trip;" (.ref o1) ∧ Fld Z h o0 "com/example/phlow/phlow/engine/Vehicle" "id" "Ljava/lang/String;" (.ref vehicle_o1) ∧ Fld Z h o0 "com/example/phlow/phlow/engine/Vehicle" "maxSpeed" "D" (.double maxSpeed_o1) ∧ Fld Z h o0 "com/example/phlow/phlow/engine/Vehicle" "route" "[I" (.ref b9) ∧ Fld Z h o0 "com/example/phlow/phlow/engine/Vehicle" "link" "I" (.int (-1 : Int32)) ∧ Fld Z h o0 "com/example/phlow/phlow/engine/Vehicle" "nextLink" "I" (.int (-1 : Int32)) ∧ Fld Z h o0 "com/example/phlow/phlow/engine/Vehicle" "pos" "D" (.double pos_o0) ∧ Exa Z h b9 "[I" ∧ Ary tr Z h b9 .int []
set_option maxRecDepth 65536 in
set_option maxHeartbeats 40000000 in
theorem rm4 (l : Launch) (Z : State) (a0 : Array Value) (hw : ∀ d ∈ tables_1, d.before a0 Z = true) (ws : List Jvm.Cond) (o0 : Addr) (o1 : Addr) (o2 : Addr) (departedAt_o0 : UInt64) (arrivedAt_o0 : UInt64) (u_trip_o0 : Value) (u_id_o0 : Value) (maxSpeed_o0 : UInt64) (u_route_o0 : Value) (link_o0 : Int32) (nextLink_o0 : Int32) (pos_o0 : UInt64) (vehicle_o1 : Addr) (maxSpeed_o1 : UInt64) (h0 : Heap) (n0 : Nat) (Z0 : n0 ≤ h0.size) (F_o0_departedAt : Fld Z h0 o0 "com/example/phlow/phlow/engine/Vehicle" "departedAt" "D" (.double departedAt_o0)) (F_o0_arrivedAt : Fld Z h0 o0 "com/example/phlow/phlow/engine/Vehicle" "arrivedAt" "D" (.double arrivedAt_o0)) (F_o0_trip : Fld Z h0 o0 "com/example/phlow/phlow/engine/Vehicle" "trip" "Lcom/example/phlow/phlow/demand/Trip;" u_trip_o0) (F_o0_id : Fld Z h0 o0 "com/example/phlow/phlow/engine/Vehicle" "id" "Ljava/lang/String;" u_id_o0) (F_o0_maxSpeed : Fld Z h0 o0 "com/example/phlow/phlow/engine/Vehicle" "maxSpeed" "D" (.double maxSpeed_o0)) (F_o0_route : Fld Z h0 o0 "com/example/phlow/phlow/engine/Vehicle" "route" "[I" u_route_o0) (F_o0_link : Fld Z h0 o0 "com/example/phlow/phlow/engine/Vehicle" "link" "I" (.int link_o0)) (F_o0_nextLink : Fld Z h0 o0 "com/example/phlow/phlow/engine/Vehicle" "nextLink" "I" (.int nextLink_o0)) (F_o0_pos : Fld Z h0 o0 "com/example/phlow/phlow/engine/Vehicle" "pos" "D" (.double pos_o0)) (V_o2 : Ary tr Z h0 o2 .int []) (F_o1_vehicle : Fld Z h0 o1 "com/example/phlow/phlow/demand/Trip" "vehicle" "Ljava/lang/String;" (.ref vehicle_o1)) (E_o1 : Exa Z h0 o1 "com/example/phlow/phlow/demand/Trip") (F_o1_maxSpeed : Fld Z h0 o1 "com/example/phlow/phlow/demand/Trip" "maxSpeed" "D" (.double maxSpeed_o1)) (E_o2 : Exa Z h0 o2 "[I") (E_o0 : Exa Z h0 o0 "com/example/phlow/phlow/engine/Vehicle") (g_o0 : n0 ≤ o0) (ne_o1_o0 : o1 ≠ o0) (ne_o2_o0 : o2 ≠ o0) :
    MetFree l (⟨"com/example/phlow/phlow/engine/Vehicle", "<init>", "(Lcom/example/phlow/phlow/demand/Trip;[I)V"⟩ : MethodName) (head1 (Jvm.Cond.code (⟨"com/example/phlow/phlow/engine/Vehicle", "<init>", "(Lcom/example/phlow/phlow/demand/Trip;[I)V"⟩ : MethodName) prog_24_method_1_code 3 none :: ws) ({ frames := 1, cells := 1, slots := 0, locals := 15 } : Room)) (fun a U => a = #[(.ref o0), (.ref o1), (.ref o2)] ∧ Z.Warmed39 U.vm ∧ U.heap = h0) (fun _ _ _ _ _ => True) (fun _ U o U' => ∃ v L, o = .returned v ∧ Q4 Z o0 o1 o2 departedAt_o0 arrivedAt_o0 u_trip_o0 u_id_o0 maxSpeed_o0 u_route_o0 link_o0 nextLink_o0 pos_o0 vehicle_o1 maxSpeed_o1 h0 n0 v U'.heap L ∧ FrameEnd U o U' L ({ frames := 1, cells := 1, slots := 0, locals := 15 } : Room).cells ({ frames := 1, cells := 1, slots := 0, locals := 15 } : Room).slots) := by
  refine MetFree.of_bodySF (plainFor_of_name pn_com_example_phlow_phlow_engine_Vehicle) hisR ?_
  intro p e s m args below meth c s₁ Bd hml0 hP hK
  obtain ⟨rfl, hZ, hhp⟩ := hP
  have hx := Bd.exec
  have hby := Bd.bytes
  have hml : c.maxLocals = 3 := hml0
  have hown : s.vm.findClass "com/example/phlow/phlow/engine/Vehicle" = some m.cls := findClass_of_methodNamed Bd.named
  have hnm := (name_of_methodNamed Bd.named Bd.method).1
  have X0 : Stand p l e ({ frames := 1, cells := 1, slots := 0, locals := 15 } : Room) s m #[(.ref o0), (.ref o1), (.ref o2)] below meth c s₁ [] 0 0 := Stand.of_body Bd
  have eH0 : s₁.heap = h0 := by rw [← hhp, Bd.state]; rfl
  have N0 := Fr.nil n0
  have K0 := Keep.refl h0 [o0]
  show Gt p.tables e below (fun o U' => ∃ v L, o = .returned v ∧ Q4 Z o0 o1 o2 departedAt_o0 arrivedAt_o0 u_trip_o0 u_id_o0 maxSpeed_o0 u_route_o0 link_o0 nextLink_o0 pos_o0 vehicle_o1 maxSpeed_o1 h0 n0 v U'.heap L ∧ FrameEnd s o U' L ({ frames := 1, cells := 1, slots := 0, locals := 15 } : Room).cells ({ frames := 1, cells := 1, slots := 0, locals := 15 } : Room).slots) _
  refine own_cast (ef4 m o0 o1 o2) ?_
  refine own_aloadN X0 hx hby rfl rfl d4_0 (pc' := 1) rfl ?_
  refine own_initO X0 hx hby hZ hown (hw _ (List.mem_of_getElem? (i := 39) rfl)) (hw _ (List.mem_of_getElem? (i := 20) rfl)) (hw _ (List.mem_of_getElem? (i := 21) rfl)) eH0 (by rw [hml]; rfl) d4_1 (pc' := 4) rfl (by decide) (W := 0) (Nat.le_of_eq rfl) (by decide) (fun T1 X1 eH1 => ?_)
  refine own_aloadN X1 hx hby rfl rfl d4_4 (pc' := 5) rfl ?_
  refine own_ldc2D X1 hx hby hZ hown (hw _ (List.mem_of_getElem? (i := 40) rfl)) d4_5 (pc' := 8) rfl ?_
  refine own_putF X1 hx hby hZ hown (host := "") (Or.inl (hw _ (List.mem_of_getElem? (i := 41) rfl))) Via.refl eH1 F_o0_departedAt E_o0 (Or.inl (hw _ (List.mem_of_getElem? (i := 42) rfl))) (hw _ (List.mem_of_getElem? (i := 33) rfl)) (ty := .double) (by decide) rfl rfl d4_8 (pc' := 11) rfl (fun T2 h2 X2 eH2 W2 => ?_)
  replace E_o0 := E_o0.wr W2
  replace F_o0_departedAt := F_o0_departedAt.same W2
  replace F_o0_arrivedAt := F_o0_arrivedAt.other W2 (Or.inr (slot_ne (Or.inl (hw _ (List.mem_of_getElem? (i := 44) rfl))) (Or.inl (hw _ (List.mem_of_getElem? (i := 42) rfl))) (by decide) (t := .double) (t' := .double) (by decide) (by decide)))
  replace F_o0_trip := F_o0_trip.other W2 (Or.inr (slot_ne (Or.inr (hw _ (List.mem_of_getElem? (i := 46) rfl))) (Or.inl (hw _ (List.mem_of_getElem? (i := 42) rfl))) (by decide) (t := (.object "com/example/phlow/phlow/demand/Trip")) (t' := .double) (by decide) (by decide)))
  replace F_o0_id := F_o0_id.other W2 (Or.inr (slot_ne (Or.inr (hw _ (List.mem_of_getElem? (i := 53) rfl))) (Or.inl (hw _ (List.mem_of_getElem? (i := 42) rfl))) (by decide) (t := (.object "java/lang/String")) (t' := .double) (by decide) (by decide)))
  replace F_o0_maxSpeed := F_o0_maxSpeed.other W2 (Or.inr (slot_ne (Or.inr (hw _ (List.mem_of_getElem? (i := 60) rfl))) (Or.inl (hw _ (List.mem_of_getElem? (i := 42) rfl))) (by decide) (t := .double) (t' := .double) (by decide) (by decide)))
  replace F_o0_route := F_o0_route.other W2 (Or.inr (slot_ne (Or.inr (hw _ (List.mem_of_getElem? (i := 71) rfl))) (Or.inl (hw _ (List.mem_of_getElem? (i := 42) rfl))) (by decide) (t := (.array .int)) (t' := .double) (by decide) (by decide)))
  replace F_o0_link := F_o0_link.other W2 (Or.inr (slot_ne (Or.inl (hw _ (List.mem_of_getElem? (i := 73) rfl))) (Or.inl (hw _ (List.mem_of_getElem? (i := 42) rfl))) (by decide) (t := .int) (t' := .double) (by decide) (by decide)))
  replace F_o0_nextLink := F_o0_nextLink.other W2 (Or.inr (slot_ne (Or.inl (hw _ (List.mem_of_getElem? (i := 75) rfl))) (Or.inl (hw _ (List.mem_of_getElem? (i := 42) rfl))) (by decide) (t := .int) (t' := .double) (by decide) (by decide)))
  replace F_o0_pos := F_o0_pos.other W2 (Or.inr (slot_ne (Or.inl (hw _ (List.mem_of_getElem? (i := 118) rfl))) (Or.inl (hw _ (List.mem_of_getElem? (i := 42) rfl))) (by decide) (t := .double) (t' := .double) (by decide) (by decide)))
  replace E_o1 := E_o1.wr W2
  replace F_o1_vehicle := F_o1_vehicle.other W2 (Or.inl ne_o1_o0)
  replace F_o1_maxSpeed := F_o1_maxSpeed.other W2 (Or.inl ne_o1_o0)
  replace E_o2 := E_o2.wr W2
  replace V_o2 := V_o2.other W2 ne_o2_o0
  have N2 := Fr.snoc X2 N0 g_o0
  replace K0 := K0.wr W2 (Or.inl (by simp))
  replace Z0 := Nat.le_trans Z0 (Nat.le_of_eq W2.size.symm)
  refine own_aloadN X2 hx hby rfl rfl d4_11 (pc' := 12) rfl ?_
  refine own_ldc2D X2 hx hby hZ hown (hw _ (List.mem_of_getElem? (i := 40) rfl)) d4_12 (pc' := 15) rfl ?_
  refine own_putF X2 hx hby hZ hown (host := "") (Or.inl (hw _ (List.mem_of_getElem? (i := 43) rfl))) Via.refl eH2 F_o0_arrivedAt E_o0 (Or.inl (hw _ (List.mem_of_getElem? (i := 44) rfl))) (hw _ (List.mem_of_getElem? (i := 33) rfl)) (ty := .double) (by decide) rfl rfl d4_15 (pc' := 18) rfl (fun T3 h3 X3 eH3 W3 => ?_)
  replace E_o0 := E_o0.wr W3
  replace F_o0_departedAt := F_o0_departedAt.other W3 (Or.inr (slot_ne (Or.inl (hw _ (List.mem_of_getElem? (i := 42) rfl))) (Or.inl (hw _ (List.mem_of_getElem? (i := 44) rfl))) (by decide) (t := .double) (t' := .double) (by decide) (by decide)))
  replace F_o0_arrivedAt := F_o0_arrivedAt.same W3
  replace F_o0_trip := F_o0_trip.other W3 (Or.inr (slot_ne (Or.inr (hw _ (List.mem_of_getElem? (i := 46) rfl))) (Or.inl (hw _ (List.mem_of_getElem? (i := 44) rfl))) (by decide) (t := (.object "com/example/phlow/phlow/demand/Trip")) (t' := .double) (by decide) (by decide)))
  replace F_o0_id := F_o0_id.other W3 (Or.inr (slot_ne (Or.inr (hw _ (List.mem_of_getElem? (i := 53) rfl))) (Or.inl (hw _ (List.mem_of_getElem? (i := 44) rfl))) (by decide) (t := (.object "java/lang/String")) (t' := .double) (by decide) (by decide)))
  replace F_o0_maxSpeed := F_o0_maxSpeed.other W3 (Or.inr (slot_ne (Or.inr (hw _ (List.mem_of_getElem? (i := 60) rfl))) (Or.inl (hw _ (List.mem_of_getElem? (i := 44) rfl))) (by decide) (t := .double) (t' := .double) (by decide) (by decide)))
  replace F_o0_route := F_o0_route.other W3 (Or.inr (slot_ne (Or.inr (hw _ (List.mem_of_getElem? (i := 71) rfl))) (Or.inl (hw _ (List.mem_of_getElem? (i := 44) rfl))) (by decide) (t := (.array .int)) (t' := .double) (by decide) (by decide)))
  replace F_o0_link := F_o0_link.other W3 (Or.inr (slot_ne (Or.inl (hw _ (List.mem_of_getElem? (i := 73) rfl))) (Or.inl (hw _ (List.mem_of_getElem? (i := 44) rfl))) (by decide) (t := .int) (t' := .double) (by decide) (by decide)))
  replace F_o0_nextLink := F_o0_nextLink.other W3 (Or.inr (slot_ne (Or.inl (hw _ (List.mem_of_getElem? (i := 75) rfl))) (Or.inl (hw _ (List.mem_of_getElem? (i := 44) rfl))) (by decide) (t := .int) (t' := .double) (by decide) (by decide)))
  replace F_o0_pos := F_o0_pos.other W3 (Or.inr (slot_ne (Or.inl (hw _ (List.mem_of_getElem? (i := 118) rfl))) (Or.inl (hw _ (List.mem_of_getElem? (i := 44) rfl))) (by decide) (t := .double) (t' := .double) (by decide) (by decide)))
  replace E_o1 := E_o1.wr W3
  replace F_o1_vehicle := F_o1_vehicle.other W3 (Or.inl ne_o1_o0)
  replace F_o1_maxSpeed := F_o1_maxSpeed.other W3 (Or.inl ne_o1_o0)
  replace E_o2 := E_o2.wr W3
  replace V_o2 := V_o2.other W3 ne_o2_o0
  have N3 := Fr.snoc X3 N2 g_o0
  replace K0 := K0.wr W3 (Or.inl (by simp))
  replace Z0 := Nat.le_trans Z0 (Nat.le_of_eq W3.size.symm)
  refine own_aloadN X3 hx hby rfl rfl d4_18 (pc' := 19) rfl ?_
  refine own_aloadN X3 hx hby rfl rfl d4_19 (pc' := 20) rfl ?_
  refine own_putF X3 hx hby hZ hown (host := "") (Or.inl (hw _ (List.mem_of_getElem? (i := 45) rfl))) Via.refl eH3 F_o0_trip E_o0 (Or.inr ⟨(hw _ (List.mem_of_getElem? (i := 46) rfl)), rfl, hnm⟩) (hw _ (List.mem_of_getElem? (i := 33) rfl)) (ty := (.object "com/example/phlow/phlow/demand/Trip")) (by decide) rfl rfl d4_20 (pc' := 23) rfl (fun T4 h4 X4 eH4 W4 => ?_)
  replace E_o0 := E_o0.wr W4
  replace F_o0_departedAt := F_o0_departedAt.other W4 (Or.inr (slot_ne (Or.inl (hw _ (List.mem_of_getElem? (i := 42) rfl))) (Or.inr (hw _ (List.mem_of_getElem? (i := 46) rfl))) (by decide) (t := .double) (t' := (.object "com/example/phlow/phlow/demand/Trip")) (by decide) (by decide)))
  replace F_o0_arrivedAt := F_o0_arrivedAt.other W4 (Or.inr (slot_ne (Or.inl (hw _ (List.mem_of_getElem? (i := 44) rfl))) (Or.inr (hw _ (List.mem_of_getElem? (i := 46) rfl))) (by decide) (t := .double) (t' := (.object "com/example/phlow/phlow/demand/Trip")) (by decide) (by decide)))
  replace F_o0_trip := F_o0_trip.same W4
  replace F_o0_id := F_o0_id.other W4 (Or.inr (slot_ne (Or.inr (hw _ (List.mem_of_getElem? (i := 53) rfl))) (Or.inr (hw _ (List.mem_of_getElem? (i := 46) rfl))) (by decide) (t := (.object "java/lang/String")) (t' := (.object "com/example/phlow/phlow/demand/Trip")) (by decide) (by decide)))
  replace F_o0_maxSpeed := F_o0_maxSpeed.other W4 (Or.inr (slot_ne (Or.inr (hw _ (List.mem_of_getElem? (i := 60) rfl))) (Or.inr (hw _ (List.mem_of_getElem? (i := 46) rfl))) (by decide) (t := .double) (t' := (.object "com/example/phlow/phlow/demand/Trip")) (by decide) (by decide)))
  replace F_o0_route := F_o0_route.other W4 (Or.inr (slot_ne (Or.inr (hw _ (List.mem_of_getElem? (i := 71) rfl))) (Or.inr (hw _ (List.mem_of_getElem? (i := 46) rfl))) (by decide) (t := (.array .int)) (t' := (.object "com/example/phlow/phlow/demand/Trip")) (by decide) (by decide)))
  replace F_o0_link := F_o0_link.other W4 (Or.inr (slot_ne (Or.inl (hw _ (List.mem_of_getElem? (i := 73) rfl))) (Or.inr (hw _ (List.mem_of_getElem? (i := 46) rfl))) (by decide) (t := .int) (t' := (.object "com/example/phlow/phlow/demand/Trip")) (by decide) (by decide)))
  replace F_o0_nextLink := F_o0_nextLink.other W4 (Or.inr (slot_ne (Or.inl (hw _ (List.mem_of_getElem? (i := 75) rfl))) (Or.inr (hw _ (List.mem_of_getElem? (i := 46) rfl))) (by decide) (t := .int) (t' := (.object "com/example/phlow/phlow/demand/Trip")) (by decide) (by decide)))
  replace F_o0_pos := F_o0_pos.other W4 (Or.inr (slot_ne (Or.inl (hw _ (List.mem_of_getElem? (i := 118) rfl))) (Or.inr (hw _ (List.mem_of_getElem? (i := 46) rfl))) (by decide) (t := .double) (t' := (.object "com/example/phlow/phlow/demand/Trip")) (by decide) (by decide)))
  replace E_o1 := E_o1.wr W4
  replace F_o1_vehicle := F_o1_vehicle.other W4 (Or.inl ne_o1_o0)
  replace F_o1_maxSpeed := F_o1_maxSpeed.other W4 (Or.inl ne_o1_o0)
  replace E_o2 := E_o2.wr W4
  replace V_o2 := V_o2.other W4 ne_o2_o0
  have N4 := Fr.snoc X4 N3 g_o0
  replace K0 := K0.wr W4 (Or.inl (by simp))
  replace Z0 := Nat.le_trans Z0 (Nat.le_of_eq W4.size.symm)
  refine own_aloadN X4 hx hby rfl rfl d4_23 (pc' := 24) rfl ?_
  refine own_aloadN X4 hx hby rfl rfl d4_24 (pc' := 25) rfl ?_
  refine own_virtual X4 hx hby hZ (y := (⟨"com/example/phlow/phlow/demand/Trip", "vehicle", "()Ljava/lang/String;"⟩ : MethodName)) (y' := (⟨"com/example/phlow/phlow/demand/Trip", "vehicle", "()Ljava/lang/String;"⟩ : MethodName)) (C := "com/example/phlow/phlow/demand/Trip") (rest := [(.ref o0)]) hown (hw _ (List.mem_of_getElem? (i := 47) rfl)) (hw _ (List.mem_of_getElem? (i := 48) rfl)) (notFace_of_selects (args := #[]) (mvT hZ (hw _ (List.mem_of_getElem? (i := 50) rfl)))) (hw _ (List.mem_of_getElem? (i := 50) rfl)) (hw _ (List.mem_of_getElem? (i := 49) rfl)) (hw _ (List.mem_of_getElem? (i := 51) rfl)) (hw _ (List.mem_of_getElem? (i := 3) rfl)) (by decide) (rm5 l Z a0 hw [] o1 vehicle_o1 h4 n0 Z0 F_o1_vehicle) eH4 (by rw [hml]; rfl) (a := o1) E_o1 (argsL := []) rfl (lenOf pd_1 rfl) rfl d4_25 (pc' := 28) rfl (by decide) (W := 1) (Nat.le_of_eq rfl) (by decide) (by decide) (by decide) (fun T5 h5 Lc5 v5r X5 eH5 hQ5 => ?_)
  obtain ⟨rfl, Nq5, rfl⟩ := hQ5
  have N5 := Fr.app N4 Nq5
  refine own_putF X5 hx hby hZ hown (host := "") (Or.inl (hw _ (List.mem_of_getElem? (i := 52) rfl))) Via.refl eH5 F_o0_id E_o0 (Or.inr ⟨(hw _ (List.mem_of_getElem? (i := 53) rfl)), rfl, hnm⟩) (hw _ (List.mem_of_getElem? (i := 33) rfl)) (ty := (.object "java/lang/String")) (by decide) rfl rfl d4_28 (pc' := 31) rfl (fun T6 h6 X6 eH6 W6 => ?_)
  replace E_o0 := E_o0.wr W6
  replace F_o0_departedAt := F_o0_departedAt.other W6 (Or.inr (slot_ne (Or.inl (hw _ (List.mem_of_getElem? (i := 42) rfl))) (Or.inr (hw _ (List.mem_of_getElem? (i := 53) rfl))) (by decide) (t := .double) (t' := (.object "java/lang/String")) (by decide) (by decide)))
  replace F_o0_arrivedAt := F_o0_arrivedAt.other W6 (Or.inr (slot_ne (Or.inl (hw _ (List.mem_of_getElem? (i := 44) rfl))) (Or.inr (hw _ (List.mem_of_getElem? (i := 53) rfl))) (by decide) (t := .double) (t' := (.object "java/lang/String")) (by decide) (by decide)))
  replace F_o0_trip := F_o0_trip.other W6 (Or.inr (slot_ne (Or.inr (hw _ (List.mem_of_getElem? (i := 46) rfl))) (Or.inr (hw _ (List.mem_of_getElem? (i := 53) rfl))) (by decide) (t := (.object "com/example/phlow/phlow/demand/Trip")) (t' := (.object "java/lang/String")) (by decide) (by decide)))
  replace F_o0_id := F_o0_id.same W6
  replace F_o0_maxSpeed := F_o0_maxSpeed.other W6 (Or.inr (slot_ne (Or.inr (hw _ (List.mem_of_getElem? (i := 60) rfl))) (Or.inr (hw _ (List.mem_of_getElem? (i := 53) rfl))) (by decide) (t := .double) (t' := (.object "java/lang/String")) (by decide) (by decide)))
  replace F_o0_route := F_o0_route.other W6 (Or.inr (slot_ne (Or.inr (hw _ (List.mem_of_getElem? (i := 71) rfl))) (Or.inr (hw _ (List.mem_of_getElem? (i := 53) rfl))) (by decide) (t := (.array .int)) (t' := (.object "java/lang/String")) (by decide) (by decide)))
  replace F_o0_link := F_o0_link.other W6 (Or.inr (slot_ne (Or.inl (hw _ (List.mem_of_getElem? (i := 73) rfl))) (Or.inr (hw _ (List.mem_of_getElem? (i := 53) rfl))) (by decide) (t := .int) (t' := (.object "java/lang/String")) (by decide) (by decide)))
  replace F_o0_nextLink := F_o0_nextLink.other W6 (Or.inr (slot_ne (Or.inl (hw _ (List.mem_of_getElem? (i := 75) rfl))) (Or.inr (hw _ (List.mem_of_getElem? (i := 53) rfl))) (by decide) (t := .int) (t' := (.object "java/lang/String")) (by decide) (by decide)))
  replace F_o0_pos := F_o0_pos.other W6 (Or.inr (slot_ne (Or.inl (hw _ (List.mem_of_getElem? (i := 118) rfl))) (Or.inr (hw _ (List.mem_of_getElem? (i := 53) rfl))) (by decide) (t := .double) (t' := (.object "java/lang/String")) (by decide) (by decide)))
  replace E_o1 := E_o1.wr W6
  replace F_o1_vehicle := F_o1_vehicle.other W6 (Or.inl ne_o1_o0)
  replace F_o1_maxSpeed := F_o1_maxSpeed.other W6 (Or.inl ne_o1_o0)
  replace E_o2 := E_o2.wr W6
  replace V_o2 := V_o2.other W6 ne_o2_o0
  have N6 := Fr.snoc X6 N5 g_o0
  replace K0 := K0.wr W6 (Or.inl (by simp))
  replace Z0 := Nat.le_trans Z0 (Nat.le_of_eq W6.size.symm)
  refine own_aloadN X6 hx hby rfl rfl d4_31 (pc' := 32) rfl ?_
  refine own_aloadN X6 hx hby rfl rfl d4_32 (pc' := 33) rfl ?_
  refine own_virtual X6 hx hby hZ (y := (⟨"com/example/phlow/phlow/demand/Trip", "maxSpeed", "()D"⟩ : MethodName)) (y' := (⟨"com/example/phlow/phlow/demand/Trip", "maxSpeed", "()D"⟩ : MethodName)) (C := "com/example/phlow/phlow/demand/Trip") (rest := [(.ref o0)]) hown (hw _ (List.mem_of_getElem? (i := 54) rfl)) (hw _ (List.mem_of_getElem? (i := 55) rfl)) (notFace_of_selects (args := #[]) (mvT hZ (hw _ (List.mem_of_getElem? (i := 57) rfl)))) (hw _ (List.mem_of_getElem? (i := 57) rfl)) (hw _ (List.mem_of_getElem? (i := 56) rfl)) (hw _ (List.mem_of_getElem? (i := 58) rfl)) (hw _ (List.mem_of_getElem? (i := 3) rfl)) (by decide) (rm6 l Z a0 hw [] o1 maxSpeed_o1 h6 n0 Z0 F_o1_maxSpeed) eH6 (by rw [hml]; rfl) (a := o1) E_o1 (argsL := []) rfl (lenOf pd_2 rfl) rfl d4_33 (pc' := 36) rfl (by decide) (W := 1) (Nat.le_of_eq rfl) (by decide) (by decide) (by decide) (fun T7 h7 Lc7 v7r X7 eH7 hQ7 => ?_)
  obtain ⟨rfl, Nq7, rfl⟩ := hQ7
  have N7 := Fr.app N6 Nq7
  refine own_putF X7 hx hby hZ hown (host := "") (Or.inl (hw _ (List.mem_of_getElem? (i := 59) rfl))) Via.refl eH7 F_o0_maxSpeed E_o0 (Or.inr ⟨(hw _ (List.mem_of_getElem? (i := 60) rfl)), rfl, hnm⟩) (hw _ (List.mem_of_getElem? (i := 33) rfl)) (ty := .double) (by decide) rfl rfl d4_36 (pc' := 39) rfl (fun T8 h8 X8 eH8 W8 => ?_)
  replace E_o0 := E_o0.wr W8
  replace F_o0_departedAt := F_o0_departedAt.other W8 (Or.inr (slot_ne (Or.inl (hw _ (List.mem_of_getElem? (i := 42) rfl))) (Or.inr (hw _ (List.mem_of_getElem? (i := 60) rfl))) (by decide) (t := .double) (t' := .double) (by decide) (by decide)))
  replace F_o0_arrivedAt := F_o0_arrivedAt.other W8 (Or.inr (slot_ne (Or.inl (hw _ (List.mem_of_getElem? (i := 44) rfl))) (Or.inr (hw _ (List.mem_of_getElem? (i := 60) rfl))) (by decide) (t := .double) (t' := .double) (by decide) (by decide)))
  replace F_o0_trip := F_o0_trip.other W8 (Or.inr (slot_ne (Or.inr (hw _ (List.mem_of_getElem? (i := 46) rfl))) (Or.inr (hw _ (List.mem_of_getElem? (i := 60) rfl))) (by decide) (t := (.object "com/example/phlow/phlow/demand/Trip")) (t' := .double) (by decide) (by decide)))
  replace F_o0_id := F_o0_id.other W8 (Or.inr (slot_ne (Or.inr (hw _ (List.mem_of_getElem? (i := 53) rfl))) (Or.inr (hw _ (List.mem_of_getElem? (i := 60) rfl))) (by decide) (t := (.object "java/lang/String")) (t' := .double) (by decide) (by decide)))
  replace F_o0_maxSpeed := F_o0_maxSpeed.same W8
  replace F_o0_route := F_o0_route.other W8 (Or.inr (slot_ne (Or.inr (hw _ (List.mem_of_getElem? (i := 71) rfl))) (Or.inr (hw _ (List.mem_of_getElem? (i := 60) rfl))) (by decide) (t := (.array .int)) (t' := .double) (by decide) (by decide)))
  replace F_o0_link := F_o0_link.other W8 (Or.inr (slot_ne (Or.inl (hw _ (List.mem_of_getElem? (i := 73) rfl))) (Or.inr (hw _ (List.mem_of_getElem? (i := 60) rfl))) (by decide) (t := .int) (t' := .double) (by decide) (by decide)))
  replace F_o0_nextLink := F_o0_nextLink.other W8 (Or.inr (slot_ne (Or.inl (hw _ (List.mem_of_getElem? (i := 75) rfl))) (Or.inr (hw _ (List.mem_of_getElem? (i := 60) rfl))) (by decide) (t := .int) (t' := .double) (by decide) (by decide)))
  replace F_o0_pos := F_o0_pos.other W8 (Or.inr (slot_ne (Or.inl (hw _ (List.mem_of_getElem? (i := 118) rfl))) (Or.inr (hw _ (List.mem_of_getElem? (i := 60) rfl))) (by decide) (t := .double) (t' := .double) (by decide) (by decide)))
  replace E_o1 := E_o1.wr W8
  replace F_o1_vehicle := F_o1_vehicle.other W8 (Or.inl ne_o1_o0)
  replace F_o1_maxSpeed := F_o1_maxSpeed.other W8 (Or.inl ne_o1_o0)
  replace E_o2 := E_o2.wr W8
  replace V_o2 := V_o2.other W8 ne_o2_o0
  have N8 := Fr.snoc X8 N7 g_o0
  replace K0 := K0.wr W8 (Or.inl (by simp))
  replace Z0 := Nat.le_trans Z0 (Nat.le_of_eq W8.size.symm)
  refine own_aloadN X8 hx hby rfl rfl d4_39 (pc' := 40) rfl ?_
  refine own_aloadN X8 hx hby rfl rfl d4_40 (pc' := 41) rfl ?_
  refine own_cloneI X8 hx hby hZ hown (hw _ (List.mem_of_getElem? (i := 61) rfl)) (hw _ (List.mem_of_getElem? (i := 62) rfl)) (hw _ (List.mem_of_getElem? (i := 66) rfl)) (hw _ (List.mem_of_getElem? (i := 64) rfl)) (hw _ (List.mem_of_getElem? (i := 65) rfl)) (hw _ (List.mem_of_getElem? (i := 67) rfl)) eH8 V_o2 E_o2 (z := 0) (of_decide_eq_true rfl) (by decide) (fun i hi => by rcases i with _ | i <;> first | rfl | exact absurd hi (by simp)) (by rw [hml]; rfl) d4_41 (pc' := 44) rfl (by decide) (W := 1) (cap := 0) (Nat.le_of_eq rfl) (by decide) (Nat.le_of_eq rfl) (by decide) (by decide) (fun T9 h9 b9 X9 eH9 E9 g9 E_b9 V_b9 => ?_)
  have g_b9 : n0 ≤ b9 := g9 ▸ Z0
  have sz_b9 : h0.size ≤ b9 := g9 ▸ K0.1
  have ne_o0_b9 : o0 ≠ b9 := Nat.ne_of_lt (g9 ▸ E_o0.lt)
  have ne_o1_b9 : o1 ≠ b9 := Nat.ne_of_lt (g9 ▸ E_o1.lt)
  have ne_o2_b9 : o2 ≠ b9 := Nat.ne_of_lt (g9 ▸ E_o2.lt)
  replace E_o0 := E_o0.ext E9
  replace F_o0_departedAt := F_o0_departedAt.ext E9
  replace F_o0_arrivedAt := F_o0_arrivedAt.ext E9
  replace F_o0_trip := F_o0_trip.ext E9
  replace F_o0_id := F_o0_id.ext E9
  replace F_o0_maxSpeed := F_o0_maxSpeed.ext E9
  replace F_o0_route := F_o0_route.ext E9
  replace F_o0_link := F_o0_link.ext E9
  replace F_o0_nextLink := F_o0_nextLink.ext E9
  replace F_o0_pos := F_o0_pos.ext E9
  replace E_o1 := E_o1.ext E9
  replace F_o1_vehicle := F_o1_vehicle.ext E9
  replace F_o1_maxSpeed := F_o1_maxSpeed.ext E9
  replace E_o2 := E_o2.ext E9
  replace V_o2 := V_o2.ext E9
  replace K0 := K0.ext E9
  replace Z0 := Nat.le_trans Z0 E9.1
  refine own_castY X9 hx hby hZ hown (hw _ (List.mem_of_getElem? (i := 68) rfl)) eH9 (Ins.self E_b9) d4_44 (pc' := 47) rfl (fun T10 X10 eH10 => ?_)
  refine own_putF X10 hx hby hZ hown (host := "") (Or.inl (hw _ (List.mem_of_getElem? (i := 70) rfl))) Via.refl eH10 F_o0_route E_o0 (Or.inr ⟨(hw _ (List.mem_of_getElem? (i := 71) rfl)), rfl, hnm⟩) (hw _ (List.mem_of_getElem? (i := 33) rfl)) (ty := (.array .int)) (by decide) rfl rfl d4_47 (pc' := 50) rfl (fun T11 h11 X11 eH11 W11 => ?_)
  replace E_o0 := E_o0.wr W11
  replace F_o0_departedAt := F_o0_departedAt.other W11 (Or.inr (slot_ne (Or.inl (hw _ (List.mem_of_getElem? (i := 42) rfl))) (Or.inr (hw _ (List.mem_of_getElem? (i := 71) rfl))) (by decide) (t := .double) (t' := (.array .int)) (by decide) (by decide)))
  replace F_o0_arrivedAt := F_o0_arrivedAt.other W11 (Or.inr (slot_ne (Or.inl (hw _ (List.mem_of_getElem? (i := 44) rfl))) (Or.inr (hw _ (List.mem_of_getElem? (i := 71) rfl))) (by decide) (t := .double) (t' := (.array .int)) (by decide) (by decide)))
  replace F_o0_trip := F_o0_trip.other W11 (Or.inr (slot_ne (Or.inr (hw _ (List.mem_of_getElem? (i := 46) rfl))) (Or.inr (hw _ (List.mem_of_getElem? (i := 71) rfl))) (by decide) (t := (.object "com/example/phlow/phlow/demand/Trip")) (t' := (.array .int)) (by decide) (by decide)))
  replace F_o0_id := F_o0_id.other W11 (Or.inr (slot_ne (Or.inr (hw _ (List.mem_of_getElem? (i := 53) rfl))) (Or.inr (hw _ (List.mem_of_getElem? (i := 71) rfl))) (by decide) (t := (.object "java/lang/String")) (t' := (.array .int)) (by decide) (by decide)))
  replace F_o0_maxSpeed := F_o0_maxSpeed.other W11 (Or.inr (slot_ne (Or.inr (hw _ (List.mem_of_getElem? (i := 60) rfl))) (Or.inr (hw _ (List.mem_of_getElem? (i := 71) rfl))) (by decide) (t := .double) (t' := (.array .int)) (by decide) (by decide)))
  replace F_o0_route := F_o0_route.same W11
  replace F_o0_link := F_o0_link.other W11 (Or.inr (slot_ne (Or.inl (hw _ (List.mem_of_getElem? (i := 73) rfl))) (Or.inr (hw _ (List.mem_of_getElem? (i := 71) rfl))) (by decide) (t := .int) (t' := (.array .int)) (by decide) (by decide)))
  replace F_o0_nextLink := F_o0_nextLink.other W11 (Or.inr (slot_ne (Or.inl (hw _ (List.mem_of_getElem? (i := 75) rfl))) (Or.inr (hw _ (List.mem_of_getElem? (i := 71) rfl))) (by decide) (t := .int) (t' := (.array .int)) (by decide) (by decide)))
  replace F_o0_pos := F_o0_pos.other W11 (Or.inr (slot_ne (Or.inl (hw _ (List.mem_of_getElem? (i := 118) rfl))) (Or.inr (hw _ (List.mem_of_getElem? (i := 71) rfl))) (by decide) (t := .double) (t' := (.array .int)) (by decide) (by decide)))
  replace E_o1 := E_o1.wr W11
  replace F_o1_vehicle := F_o1_vehicle.other W11 (Or.inl ne_o1_o0)
  replace F_o1_maxSpeed := F_o1_maxSpeed.other W11 (Or.inl ne_o1_o0)
  replace E_o2 := E_o2.wr W11
  replace V_o2 := V_o2.other W11 ne_o2_o0
  replace E_b9 := E_b9.wr W11
  replace V_b9 := V_b9.other W11 (Ne.symm ne_o0_b9)
  have N11 := Fr.snoc X11 N8 g_o0
  replace K0 := K0.wr W11 (Or.inl (by simp))
  replace Z0 := Nat.le_trans Z0 (Nat.le_of_eq W11.size.symm)
  refine own_aloadN X11 hx hby rfl rfl d4_50 (pc' := 51) rfl ?_
  refine own_alen X11 hx hby hZ eH11 V_o2 (z := (0 : Int32)) (by first | rfl | decide) d4_51 (pc' := 52) rfl ?_
  refine own_ifT X11 hx hby d4_52 (by decide) (by decide) (pc' := 63) (by decide) ?_
  refine own_aloadN X11 hx hby rfl rfl d4_63 (pc' := 64) rfl ?_
  refine own_iconst X11 hx hby (v := (-1 : Int32)) (by decide) d4_64 (pc' := 65) rfl ?_
  refine own_putF X11 hx hby hZ hown (host := "") (Or.inl (hw _ (List.mem_of_getElem? (i := 72) rfl))) Via.refl eH11 F_o0_link E_o0 (Or.inl (hw _ (List.mem_of_getElem? (i := 73) rfl))) (hw _ (List.mem_of_getElem? (i := 33) rfl)) (ty := .int) (by decide) rfl rfl d4_65 (pc' := 68) rfl (fun T12 h12 X12 eH12 W12 => ?_)
  replace E_o0 := E_o0.wr W12
  replace F_o0_departedAt := F_o0_departedAt.other W12 (Or.inr (slot_ne (Or.inl (hw _ (List.mem_of_getElem? (i := 42) rfl))) (Or.inl (hw _ (List.mem_of_getElem? (i := 73) rfl))) (by decide) (t := .double) (t' := .int) (by decide) (by decide)))
  replace F_o0_arrivedAt := F_o0_arrivedAt.other W12 (Or.inr (slot_ne (Or.inl (hw _ (List.mem_of_getElem? (i := 44) rfl))) (Or.inl (hw _ (List.mem_of_getElem? (i := 73) rfl))) (by decide) (t := .double) (t' := .int) (by decide) (by decide)))
  replace F_o0_trip := F_o0_trip.other W12 (Or.inr (slot_ne (Or.inr (hw _ (List.mem_of_getElem? (i := 46) rfl))) (Or.inl (hw _ (List.mem_of_getElem? (i := 73) rfl))) (by decide) (t := (.object "com/example/phlow/phlow/demand/Trip")) (t' := .int) (by decide) (by decide)))
  replace F_o0_id := F_o0_id.other W12 (Or.inr (slot_ne (Or.inr (hw _ (List.mem_of_getElem? (i := 53) rfl))) (Or.inl (hw _ (List.mem_of_getElem? (i := 73) rfl))) (by decide) (t := (.object "java/lang/String")) (t' := .int) (by decide) (by decide)))
  replace F_o0_maxSpeed := F_o0_maxSpeed.other W12 (Or.inr (slot_ne (Or.inr (hw _ (List.mem_of_getElem? (i := 60) rfl))) (Or.inl (hw _ (List.mem_of_getElem? (i := 73) rfl))) (by decide) (t := .double) (t' := .int) (by decide) (by decide)))
  replace F_o0_route := F_o0_route.other W12 (Or.inr (slot_ne (Or.inr (hw _ (List.mem_of_getElem? (i := 71) rfl))) (Or.inl (hw _ (List.mem_of_getElem? (i := 73) rfl))) (by decide) (t := (.array .int)) (t' := .int) (by decide) (by decide)))
  replace F_o0_link := F_o0_link.same W12
  replace F_o0_nextLink := F_o0_nextLink.other W12 (Or.inr (slot_ne (Or.inl (hw _ (List.mem_of_getElem? (i := 75) rfl))) (Or.inl (hw _ (List.mem_of_getElem? (i := 73) rfl))) (by decide) (t := .int) (t' := .int) (by decide) (by decide)))
  replace F_o0_pos := F_o0_pos.other W12 (Or.inr (slot_ne (Or.inl (hw _ (List.mem_of_getElem? (i := 118) rfl))) (Or.inl (hw _ (List.mem_of_getElem? (i := 73) rfl))) (by decide) (t := .double) (t' := .int) (by decide) (by decide)))
  replace E_o1 := E_o1.wr W12
  replace F_o1_vehicle := F_o1_vehicle.other W12 (Or.inl ne_o1_o0)
  replace F_o1_maxSpeed := F_o1_maxSpeed.other W12 (Or.inl ne_o1_o0)
  replace E_o2 := E_o2.wr W12
  replace V_o2 := V_o2.other W12 ne_o2_o0
  replace E_b9 := E_b9.wr W12
  replace V_b9 := V_b9.other W12 (Ne.symm ne_o0_b9)
  have N12 := Fr.snoc X12 N11 g_o0
  replace K0 := K0.wr W12 (Or.inl (by simp))
  replace Z0 := Nat.le_trans Z0 (Nat.le_of_eq W12.size.symm)
  refine own_aloadN X12 hx hby rfl rfl d4_68 (pc' := 69) rfl ?_
  refine own_iconst X12 hx hby (v := (-1 : Int32)) (by decide) d4_69 (pc' := 70) rfl ?_
  refine own_putF X12 hx hby hZ hown (host := "") (Or.inl (hw _ (List.mem_of_getElem? (i := 74) rfl))) Via.refl eH12 F_o0_nextLink E_o0 (Or.inl (hw _ (List.mem_of_getElem? (i := 75) rfl))) (hw _ (List.mem_of_getElem? (i := 33) rfl)) (ty := .int) (by decide) rfl rfl d4_70 (pc' := 73) rfl (fun T13 h13 X13 eH13 W13 => ?_)
  replace E_o0 := E_o0.wr W13
  replace F_o0_departedAt := F_o0_departedAt.other W13 (Or.inr (slot_ne (Or.inl (hw _ (List.mem_of_getElem? (i := 42) rfl))) (Or.inl (hw _ (List.mem_of_getElem? (i := 75) rfl))) (by decide) (t := .double) (t' := .int) (by decide) (by decide)))
  replace F_o0_arrivedAt := F_o0_arrivedAt.other W13 (Or.inr (slot_ne (Or.inl (hw _ (List.mem_of_getElem? (i := 44) rfl))) (Or.inl (hw _ (List.mem_of_getElem? (i := 75) rfl))) (by decide) (t := .double) (t' := .int) (by decide) (by decide)))
  replace F_o0_trip := F_o0_trip.other W13 (Or.inr (slot_ne (Or.inr (hw _ (List.mem_of_getElem? (i := 46) rfl))) (Or.inl (hw _ (List.mem_of_getElem? (i := 75) rfl))) (by decide) (t := (.object "com/example/phlow/phlow/demand/Trip")) (t' := .int) (by decide) (by decide)))
  replace F_o0_id := F_o0_id.other W13 (Or.inr (slot_ne (Or.inr (hw _ (List.mem_of_getElem? (i := 53) rfl))) (Or.inl (hw _ (List.mem_of_getElem? (i := 75) rfl))) (by decide) (t := (.object "java/lang/String")) (t' := .int) (by decide) (by decide)))
  replace F_o0_maxSpeed := F_o0_maxSpeed.other W13 (Or.inr (slot_ne (Or.inr (hw _ (List.mem_of_getElem? (i := 60) rfl))) (Or.inl (hw _ (List.mem_of_getElem? (i := 75) rfl))) (by decide) (t := .double) (t' := .int) (by decide) (by decide)))
  replace F_o0_route := F_o0_route.other W13 (Or.inr (slot_ne (Or.inr (hw _ (List.mem_of_getElem? (i := 71) rfl))) (Or.inl (hw _ (List.mem_of_getElem? (i := 75) rfl))) (by decide) (t := (.array .int)) (t' := .int) (by decide) (by decide)))
  replace F_o0_link := F_o0_link.other W13 (Or.inr (slot_ne (Or.inl (hw _ (List.mem_of_getElem? (i := 73) rfl))) (Or.inl (hw _ (List.mem_of_getElem? (i := 75) rfl))) (by decide) (t := .int) (t' := .int) (by decide) (by decide)))
  replace F_o0_nextLink := F_o0_nextLink.same W13
  replace F_o0_pos := F_o0_pos.other W13 (Or.inr (slot_ne (Or.inl (hw _ (List.mem_of_getElem? (i := 118) rfl))) (Or.inl (hw _ (List.mem_of_getElem? (i := 75) rfl))) (by decide) (t := .double) (t' := .int) (by decide) (by decide)))
  replace E_o1 := E_o1.wr W13
  replace F_o1_vehicle := F_o1_vehicle.other W13 (Or.inl ne_o1_o0)
  replace F_o1_maxSpeed := F_o1_maxSpeed.other W13 (Or.inl ne_o1_o0)
  replace E_o2 := E_o2.wr W13
  replace V_o2 := V_o2.other W13 ne_o2_o0
  replace E_b9 := E_b9.wr W13
  replace V_b9 := V_b9.other W13 (Ne.symm ne_o0_b9)
  have N13 := Fr.snoc X13 N12 g_o0
  replace K0 := K0.wr W13 (Or.inl (by simp))
  replace Z0 := Nat.le_trans Z0 (Nat.le_of_eq W13.size.symm)
  exact own_retV X13 hx hby Bd.notSynchronized Bd.returns d4_73 (by decide) (by decide) eH13 ⟨b9, rfl, N13, K0, sz_b9, E_o0, F_o0_departedAt, F_o0_arrivedAt, F_o0_trip, F_o0_id, F_o0_maxSpeed, F_o0_route, F_o0_link, F_o0_nextLink, F_o0_pos, E_b9, V_b9⟩
theorem ef11 (m : MethodId) (x0 : Addr) : entryFrame m #[(.ref x0)] 1 = mkF m 0 #[.val (.ref x0)] [] := by first | (simp [entryFrame, mkF, argsToLocals, Value.category]; done) | rfl
def Q11 (Z : State) (o0 : Addr) (pos_o0 : UInt64) (h0 : Heap) (n0 : Nat) (v : Option Value) (h : Heap) (L : List Loc) : Prop := v = some (.double pos_o0) ∧ Fr n0 L ∧ h0 = h
set_option maxRecDepth 65536 in
set_option maxHeartbeats 40000000 in
theorem rm11 (l : Launch) (Z : State) (a0 : Array Value) (hw : ∀ d ∈ tables_1, d.before a0 Z = true) (ws : List Jvm.Cond) (o0 : Addr) (pos_o0 : UInt64) (h0 : Heap) (n0 : Nat) (Z0 : n0 ≤ h0.size) (F_o0_pos : Fld Z h0 o0 "com/example/phlow/phlow/engine/Vehicle" "pos" "D" (.double pos_o0)) :
    MetFree l (⟨"com/example/phlow/phlow/engine/Vehicle", "pos", "()D"⟩ : MethodName) (head1 (Jvm.Cond.code (⟨"com/example/phlow/phlow/engine/Vehicle", "pos", "()D"⟩ : MethodName) prog_24_method_8_code 1 (some .double) :: ws) ({ frames := 0, cells := 0, slots := 0, locals := 0 } : Room)) (fun a U => a = #[(.ref o0)] ∧ Z.Warmed39 U.vm ∧ U.heap = h0) (fun _ _ _ _ _ => True) (fun _ U o U' => ∃ v L, o = .returned v ∧ Q11 Z o0 pos_o0 h0 n0 v U'.heap L ∧ FrameEnd U o U' L ({ frames := 0, cells := 0, slots := 0, locals := 0 } : Room).cells ({ frames := 0, cells := 0, slots := 0, locals := 0 } : Room).slots) := by
  refine MetFree.of_bodySF (plainFor_of_name pn_com_example_phlow_phlow_engine_Vehicle) hisR ?_
  intro p e s m args below meth c s₁ Bd hml0 hP hK
  obtain ⟨rfl, hZ, hhp⟩ := hP
  have hx := Bd.exec
  have hby := Bd.bytes
  have hml : c.maxLocals = 1 := hml0
  have hown : s.vm.findClass "com/example/phlow/phlow/engine/Vehicle" = some m.cls := findClass_of_methodNamed Bd.named
  have hnm := (name_of_methodNamed Bd.named Bd.method).1
  have X0 : Stand p l e ({ frames := 0, cells := 0, slots := 0, locals := 0 } : Room) s m #[(.ref o0)] below meth c s₁ [] 0 0 := Stand.of_body Bd
  have eH0 : s₁.heap = h0 := by rw [← hhp, Bd.state]; rfl
  have N0 := Fr.nil n0
  show Gt p.tables e below (fun o U' => ∃ v L, o = .returned v ∧ Q11 Z o0 pos_o0 h0 n0 v U'.heap L ∧ FrameEnd s o U' L ({ frames := 0, cells := 0, slots := 0, locals := 0 } : Room).cells ({ frames := 0, cells := 0, slots := 0, locals := 0 } : Room).slots) _
  refine own_cast (ef11 m o0) ?_
  refine own_aloadN X0 hx hby rfl rfl d11_0 (pc' := 1) rfl ?_
  refine own_getF X0 hx hby hZ hown (host := "") (Or.inl (hw _ (List.mem_of_getElem? (i := 117) rfl))) Via.refl eH0 F_o0_pos d11_1 (pc' := 4) rfl (fun T1 X1 eH1 => ?_)
  exact own_retD X1 hx hby Bd.notSynchronized Bd.returns d11_4 (by decide) (by decide) eH1 ⟨rfl, N0, rfl⟩
theorem ef7 (m : MethodId) (x0 : Addr) (x1 : Int32) (x2 : Int32) : entryFrame m #[(.ref x0), (.int x1), (.int x2)] 3 = mkF m 0 #[.val (.ref x0), .val (.int x1), .val (.int x2)] [] := by first | (simp [entryFrame, mkF, argsToLocals, Value.category]; done) | rfl
def Q7 (Z : State) (o0 : Addr) (p1 : Int32) (p2 : Int32) (u_vehicles_o0 : Value) (link_o0 : Int32) (part_o0 : Int32) (size_o0 : Int32) (h0 : Heap) (n0 : Nat) (v : Option Value) (h : Heap) (L : List Loc) : Prop := ∃ b2 : Addr, v = none ∧ Fr n0 L ∧ Keep h0 h [o0] ∧ h0.size ≤ b2 ∧ Exa Z h o0 "com/example/phlow/phlow/engine/Lane" ∧ Fld Z h o0 "com/example/phlow/phlow/engine/Lane" "vehicles" "[Lcom/example/phlow/phlow/engine/Vehicle;" (.ref b2) ∧ Fld Z h o0 "com/example/phlow/phlow/engine/Lane" "link" "I" (.int p1) ∧ Fld Z h o0 "com/example/phlow/phlow/engine/Lane" "part" "I" (.int p2) ∧ Fld Z h o0 "com/example/phlow/phlow/engine/Lane" "size" "I" (.int size_o0) ∧ Exa Z h b2 "[Lcom/example/phlow/phlow/engine/Vehicle;" ∧ Ary (ovO Z "com/example/phlow/phlow/engine/Vehicle") Z h b2 (.object "com/example/phlow/phlow/engine/Vehicle") [.null, .null, .null, .null]
set_option maxRecDepth 65536 in
set_option maxHeartbeats 40000000 in
theorem rm7 (l : Launch) (Z : State) (a0 : Array Value) (hw : ∀ d ∈ tables_1, d.before a0 Z = true) (ws : List Jvm.Cond) (o0 : Addr) (p1 : Int32) (p2 : Int32) (u_vehicles_o0 : Value) (link_o0 : Int32) (part_o0 : Int32) (size_o0 : Int32) (h0 : Heap) (n0 : Nat) (Z0 : n0 ≤ h0.size) (F_o0_vehicles : Fld Z h0 o0 "com/example/phlow/phlow/engine/Lane" "vehicles" "[Lcom/example/phlow/phlow/engine/Vehicle;" u_vehicles_o0) (F_o0_link : Fld Z h0 o0 "com/example/phlow/phlow/engine/Lane" "link" "I" (.int link_o0)) (F_o0_part : Fld Z h0 o0 "com/example/phlow/phlow/engine/Lane" "part" "I" (.int part_o0)) (F_o0_size : Fld Z h0 o0 "com/example/phlow/phlow/engine/Lane" "size" "I" (.int size_o0)) (E_o0 : Exa Z h0 o0 "com/example/phlow/phlow/engine/Lane") (g_o0 : n0 ≤ o0) :
    MetFree l (⟨"com/example/phlow/phlow/engine/Lane", "<init>", "(II)V"⟩ : MethodName) (head1 (Jvm.Cond.code (⟨"com/example/phlow/phlow/engine/Lane", "<init>", "(II)V"⟩ : MethodName) prog_11_method_1_code 3 none :: ws) ({ frames := 1, cells := 1, slots := 4, locals := 12 } : Room)) (fun a U => a = #[(.ref o0), (.int p1), (.int p2)] ∧ Z.Warmed39 U.vm ∧ U.heap = h0) (fun _ _ _ _ _ => True) (fun _ U o U' => ∃ v L, o = .returned v ∧ Q7 Z o0 p1 p2 u_vehicles_o0 link_o0 part_o0 size_o0 h0 n0 v U'.heap L ∧ FrameEnd U o U' L ({ frames := 1, cells := 1, slots := 4, locals := 12 } : Room).cells ({ frames := 1, cells := 1, slots := 4, locals := 12 } : Room).slots) := by
  refine MetFree.of_bodySF (plainFor_of_name pn_com_example_phlow_phlow_engine_Lane) hisR ?_
  intro p e s m args below meth c s₁ Bd hml0 hP hK
  obtain ⟨rfl, hZ, hhp⟩ := hP
  have hx := Bd.exec
  have hby := Bd.bytes
  have hml : c.maxLocals = 3 := hml0
  have hown : s.vm.findClass "com/example/phlow/phlow/engine/Lane" = some m.cls := findClass_of_methodNamed Bd.named
  have hnm := (name_of_methodNamed Bd.named Bd.method).1
  have X0 : Stand p l e ({ frames := 1, cells := 1, slots := 4, locals := 12 } : Room) s m #[(.ref o0), (.int p1), (.int p2)] below meth c s₁ [] 0 0 := Stand.of_body Bd
  have eH0 : s₁.heap = h0 := by rw [← hhp, Bd.state]; rfl
  have N0 := Fr.nil n0
  have K0 := Keep.refl h0 [o0]
  show Gt p.tables e below (fun o U' => ∃ v L, o = .returned v ∧ Q7 Z o0 p1 p2 u_vehicles_o0 link_o0 part_o0 size_o0 h0 n0 v U'.heap L ∧ FrameEnd s o U' L ({ frames := 1, cells := 1, slots := 4, locals := 12 } : Room).cells ({ frames := 1, cells := 1, slots := 4, locals := 12 } : Room).slots) _
  refine own_cast (ef7 m o0 p1 p2) ?_
  refine own_aloadN X0 hx hby rfl rfl d7_0 (pc' := 1) rfl ?_
  refine own_initO X0 hx hby hZ hown (hw _ (List.mem_of_getElem? (i := 82) rfl)) (hw _ (List.mem_of_getElem? (i := 20) rfl)) (hw _ (List.mem_of_getElem? (i := 21) rfl)) eH0 (by rw [hml]; rfl) d7_1 (pc' := 4) rfl (by decide) (W := 0) (Nat.le_of_eq rfl) (by decide) (fun T1 X1 eH1 => ?_)
  refine own_aloadN X1 hx hby rfl rfl d7_4 (pc' := 5) rfl ?_
  refine own_iconst X1 hx hby (v := (4 : Int32)) (by decide) d7_5 (pc' := 6) rfl ?_
  refine own_newRO X1 hx hby hZ hown (C := "com/example/phlow/phlow/engine/Vehicle") (hw _ (List.mem_of_getElem? (i := 83) rfl)) (hw _ (List.mem_of_getElem? (i := 84) rfl)) eH1 d7_6 (pc' := 9) rfl (by decide) (N := 4) (by decide) (cap := 4) (by decide) (by decide) (by decide) (by decide) (ad := "[Lcom/example/phlow/phlow/engine/Vehicle;") (by decide) (fun T2 h2 b2 X2 eH2 E2 g2 E_b2 V_b2 => ?_)
  have g_b2 : n0 ≤ b2 := g2 ▸ Z0
  have sz_b2 : h0.size ≤ b2 := g2 ▸ K0.1
  have ne_o0_b2 : o0 ≠ b2 := Nat.ne_of_lt (g2 ▸ E_o0.lt)
  replace E_o0 := E_o0.ext E2
  replace F_o0_vehicles := F_o0_vehicles.ext E2
  replace F_o0_link := F_o0_link.ext E2
  replace F_o0_part := F_o0_part.ext E2
  replace F_o0_size := F_o0_size.ext E2
  replace K0 := K0.ext E2
  replace Z0 := Nat.le_trans Z0 E2.1
  have V_b2 : Ary (ovO Z "com/example/phlow/phlow/engine/Vehicle") Z h2 b2 (.object "com/example/phlow/phlow/engine/Vehicle") [.null, .null, .null, .null] := V_b2
  refine own_putF X2 hx hby hZ hown (host := "") (Or.inl (hw _ (List.mem_of_getElem? (i := 85) rfl))) Via.refl eH2 F_o0_vehicles E_o0 (Or.inl (hw _ (List.mem_of_getElem? (i := 86) rfl))) (hw _ (List.mem_of_getElem? (i := 77) rfl)) (ty := (.array (.object "com/example/phlow/phlow/engine/Vehicle"))) (by decide) rfl rfl d7_9 (pc' := 12) rfl (fun T3 h3 X3 eH3 W3 => ?_)
  replace E_o0 := E_o0.wr W3
  replace F_o0_vehicles := F_o0_vehicles.same W3
  replace F_o0_link := F_o0_link.other W3 (Or.inr (slot_ne (Or.inr (hw _ (List.mem_of_getElem? (i := 88) rfl))) (Or.inl (hw _ (List.mem_of_getElem? (i := 86) rfl))) (by decide) (t := .int) (t' := (.array (.object "com/example/phlow/phlow/engine/Vehicle"))) (by decide) (by decide)))
  replace F_o0_part := F_o0_part.other W3 (Or.inr (slot_ne (Or.inr (hw _ (List.mem_of_getElem? (i := 90) rfl))) (Or.inl (hw _ (List.mem_of_getElem? (i := 86) rfl))) (by decide) (t := .int) (t' := (.array (.object "com/example/phlow/phlow/engine/Vehicle"))) (by decide) (by decide)))
  replace F_o0_size := F_o0_size.other W3 (Or.inr (slot_ne (Or.inl (hw _ (List.mem_of_getElem? (i := 101) rfl))) (Or.inl (hw _ (List.mem_of_getElem? (i := 86) rfl))) (by decide) (t := .int) (t' := (.array (.object "com/example/phlow/phlow/engine/Vehicle"))) (by decide) (by decide)))
  replace E_b2 := E_b2.wr W3
  replace V_b2 := V_b2.other W3 (Ne.symm ne_o0_b2)
  have N3 := Fr.snoc X3 N0 g_o0
  replace K0 := K0.wr W3 (Or.inl (by simp))
  replace Z0 := Nat.le_trans Z0 (Nat.le_of_eq W3.size.symm)
  refine own_aloadN X3 hx hby rfl rfl d7_12 (pc' := 13) rfl ?_
  refine own_iloadN X3 hx hby rfl d7_13 (pc' := 14) rfl ?_
  refine own_putF X3 hx hby hZ hown (host := "") (Or.inl (hw _ (List.mem_of_getElem? (i := 87) rfl))) Via.refl eH3 F_o0_link E_o0 (Or.inr ⟨(hw _ (List.mem_of_getElem? (i := 88) rfl)), rfl, hnm⟩) (hw _ (List.mem_of_getElem? (i := 77) rfl)) (ty := .int) (by decide) rfl rfl d7_14 (pc' := 17) rfl (fun T4 h4 X4 eH4 W4 => ?_)
  replace E_o0 := E_o0.wr W4
  replace F_o0_vehicles := F_o0_vehicles.other W4 (Or.inr (slot_ne (Or.inl (hw _ (List.mem_of_getElem? (i := 86) rfl))) (Or.inr (hw _ (List.mem_of_getElem? (i := 88) rfl))) (by decide) (t := (.array (.object "com/example/phlow/phlow/engine/Vehicle"))) (t' := .int) (by decide) (by decide)))
  replace F_o0_link := F_o0_link.same W4
  replace F_o0_part := F_o0_part.other W4 (Or.inr (slot_ne (Or.inr (hw _ (List.mem_of_getElem? (i := 90) rfl))) (Or.inr (hw _ (List.mem_of_getElem? (i := 88) rfl))) (by decide) (t := .int) (t' := .int) (by decide) (by decide)))
  replace F_o0_size := F_o0_size.other W4 (Or.inr (slot_ne (Or.inl (hw _ (List.mem_of_getElem? (i := 101) rfl))) (Or.inr (hw _ (List.mem_of_getElem? (i := 88) rfl))) (by decide) (t := .int) (t' := .int) (by decide) (by decide)))
  replace E_b2 := E_b2.wr W4
  replace V_b2 := V_b2.other W4 (Ne.symm ne_o0_b2)
  have N4 := Fr.snoc X4 N3 g_o0
  replace K0 := K0.wr W4 (Or.inl (by simp))
  replace Z0 := Nat.le_trans Z0 (Nat.le_of_eq W4.size.symm)
  refine own_aloadN X4 hx hby rfl rfl d7_17 (pc' := 18) rfl ?_
  refine own_iloadN X4 hx hby rfl d7_18 (pc' := 19) rfl ?_
  refine own_putF X4 hx hby hZ hown (host := "") (Or.inl (hw _ (List.mem_of_getElem? (i := 89) rfl))) Via.refl eH4 F_o0_part E_o0 (Or.inr ⟨(hw _ (List.mem_of_getElem? (i := 90) rfl)), rfl, hnm⟩) (hw _ (List.mem_of_getElem? (i := 77) rfl)) (ty := .int) (by decide) rfl rfl d7_19 (pc' := 22) rfl (fun T5 h5 X5 eH5 W5 => ?_)
  replace E_o0 := E_o0.wr W5
  replace F_o0_vehicles := F_o0_vehicles.other W5 (Or.inr (slot_ne (Or.inl (hw _ (List.mem_of_getElem? (i := 86) rfl))) (Or.inr (hw _ (List.mem_of_getElem? (i := 90) rfl))) (by decide) (t := (.array (.object "com/example/phlow/phlow/engine/Vehicle"))) (t' := .int) (by decide) (by decide)))
  replace F_o0_link := F_o0_link.other W5 (Or.inr (slot_ne (Or.inr (hw _ (List.mem_of_getElem? (i := 88) rfl))) (Or.inr (hw _ (List.mem_of_getElem? (i := 90) rfl))) (by decide) (t := .int) (t' := .int) (by decide) (by decide)))
  replace F_o0_part := F_o0_part.same W5
  replace F_o0_size := F_o0_size.other W5 (Or.inr (slot_ne (Or.inl (hw _ (List.mem_of_getElem? (i := 101) rfl))) (Or.inr (hw _ (List.mem_of_getElem? (i := 90) rfl))) (by decide) (t := .int) (t' := .int) (by decide) (by decide)))
  replace E_b2 := E_b2.wr W5
  replace V_b2 := V_b2.other W5 (Ne.symm ne_o0_b2)
  have N5 := Fr.snoc X5 N4 g_o0
  replace K0 := K0.wr W5 (Or.inl (by simp))
  replace Z0 := Nat.le_trans Z0 (Nat.le_of_eq W5.size.symm)
  exact own_retV X5 hx hby Bd.notSynchronized Bd.returns d7_22 (by decide) (by decide) eH5 ⟨b2, rfl, N5, K0, sz_b2, E_o0, F_o0_vehicles, F_o0_link, F_o0_part, F_o0_size, E_b2, V_b2⟩
theorem ef8 (m : MethodId) (x0 : Int32) (x1 : Addr) (x2 : Addr) (x3 : Addr) : entryFrame m #[(.int x0), (.ref x1), (.ref x2), (.ref x3)] 4 = mkF m 0 #[.val (.int x0), .val (.ref x1), .val (.ref x2), .val (.ref x3)] [] := by first | (simp [entryFrame, mkF, argsToLocals, Value.category]; done) | rfl
def Q8 (Z : State) (p0 : Int32) (o1 : Addr) (o2 : Addr) (o3 : Addr) (r : Addr) (h0 : Heap) (n0 : Nat) (v : Option Value) (h : Heap) (L : List Loc) : Prop := v = some (.ref r) ∧ Fr n0 L ∧ h0 = h
set_option maxRecDepth 65536 in
set_option maxHeartbeats 40000000 in
theorem rm8 (l : Launch) (Z : State) (a0 : Array Value) (hw : ∀ d ∈ tables_1, d.before a0 Z = true) (ws : List Jvm.Cond) (p0 : Int32) (o1 : Addr) (o2 : Addr) (o3 : Addr) (r : Addr) (h0 : Heap) (n0 : Nat) (Z0 : n0 ≤ h0.size) (hr : ((p0 = 0 ∧ r = o1) ∨ (p0 = 1 ∧ r = o2) ∨ (p0 = 2 ∧ r = o3))) :
    MetFree l (⟨"com/example/phlow/phlow/engine/LaneIndexOfPinLaw", "pick", "(ILcom/example/phlow/phlow/engine/Vehicle;Lcom/example/phlow/phlow/engine/Vehicle;Lcom/example/phlow/phlow/engine/Vehicle;)Lcom/example/phlow/phlow/engine/Vehicle;"⟩ : MethodName) (head1 (Jvm.Cond.code (⟨"com/example/phlow/phlow/engine/LaneIndexOfPinLaw", "pick", "(ILcom/example/phlow/phlow/engine/Vehicle;Lcom/example/phlow/phlow/engine/Vehicle;Lcom/example/phlow/phlow/engine/Vehicle;)Lcom/example/phlow/phlow/engine/Vehicle;"⟩ : MethodName) method_2_code 4 (some (.object "com/example/phlow/phlow/engine/Vehicle")) :: ws) ({ frames := 0, cells := 0, slots := 0, locals := 0 } : Room)) (fun a U => a = #[(.int p0), (.ref o1), (.ref o2), (.ref o3)] ∧ Z.Warmed39 U.vm ∧ U.heap = h0) (fun _ _ _ _ _ => True) (fun _ U o U' => ∃ v L, o = .returned v ∧ Q8 Z p0 o1 o2 o3 r h0 n0 v U'.heap L ∧ FrameEnd U o U' L ({ frames := 0, cells := 0, slots := 0, locals := 0 } : Room).cells ({ frames := 0, cells := 0, slots := 0, locals := 0 } : Room).slots) := by
  refine MetFree.of_bodySF (plainFor_of_name pn_com_example_phlow_phlow_engine_LaneIndexOfPinLaw) hisR ?_
  intro p e s m args below meth c s₁ Bd hml0 hP hK
  obtain ⟨rfl, hZ, hhp⟩ := hP
  have hx := Bd.exec
  have hby := Bd.bytes
  have hml : c.maxLocals = 4 := hml0
  have hown : s.vm.findClass "com/example/phlow/phlow/engine/LaneIndexOfPinLaw" = some m.cls := findClass_of_methodNamed Bd.named
  have hnm := (name_of_methodNamed Bd.named Bd.method).1
  have X0 : Stand p l e ({ frames := 0, cells := 0, slots := 0, locals := 0 } : Room) s m #[(.int p0), (.ref o1), (.ref o2), (.ref o3)] below meth c s₁ [] 0 0 := Stand.of_body Bd
  have eH0 : s₁.heap = h0 := by rw [← hhp, Bd.state]; rfl
  have N0 := Fr.nil n0
  show Gt p.tables e below (fun o U' => ∃ v L, o = .returned v ∧ Q8 Z p0 o1 o2 o3 r h0 n0 v U'.heap L ∧ FrameEnd s o U' L ({ frames := 0, cells := 0, slots := 0, locals := 0 } : Room).cells ({ frames := 0, cells := 0, slots := 0, locals := 0 } : Room).slots) _
  refine own_cast (ef8 m p0 o1 o2 o3) ?_
  refine own_iloadN X0 hx hby rfl d8_0 (pc' := 1) rfl ?_
  by_cases hc1 : p0 = 0
  · refine own_ifF X0 hx hby d8_1 (own_i0_ne_p hc1) (pc' := 4) rfl ?_
    refine own_aloadN X0 hx hby rfl rfl d8_4 (pc' := 5) rfl ?_
    exact own_retA X0 hx hby Bd.notSynchronized Bd.returns rfl rfl d8_5 (by decide) (by decide) eH0 ⟨(own_pk1 hc1 hr), N0, rfl⟩
  · refine own_ifT X0 hx hby d8_1 (own_i0_ne_n hc1) (by decide) (pc' := 6) (by decide) ?_
    refine own_iloadN X0 hx hby rfl d8_6 (pc' := 7) rfl ?_
    refine own_iconst X0 hx hby (v := (1 : Int32)) (by decide) d8_7 (pc' := 8) rfl ?_
    by_cases hc2 : p0 = (1 : Int32)
    · refine own_icF X0 hx hby d8_8 (own_ic_ne_p hc2) (pc' := 11) rfl ?_
      refine own_aloadN X0 hx hby rfl rfl d8_11 (pc' := 12) rfl ?_
      exact own_retA X0 hx hby Bd.notSynchronized Bd.returns rfl rfl d8_12 (by decide) (by decide) eH0 ⟨(own_pk2 hc2 hr), N0, rfl⟩
    · refine own_icT X0 hx hby d8_8 (own_ic_ne_n hc2) (by decide) (pc' := 13) (by decide) ?_
      refine own_iloadN X0 hx hby rfl d8_13 (pc' := 14) rfl ?_
      refine own_iconst X0 hx hby (v := (2 : Int32)) (by decide) d8_14 (pc' := 15) rfl ?_
      by_cases hc3 : p0 = (2 : Int32)
      · refine own_icF X0 hx hby d8_15 (own_ic_ne_p hc3) (pc' := 18) rfl ?_
        refine own_aloadN X0 hx hby rfl rfl d8_18 (pc' := 19) rfl ?_
        exact own_retA X0 hx hby Bd.notSynchronized Bd.returns rfl rfl d8_19 (by decide) (by decide) eH0 ⟨(own_pk3 hc3 hr), N0, rfl⟩
      · refine own_icT X0 hx hby d8_15 (own_ic_ne_n hc3) (by decide) (pc' := 20) (by decide) ?_
        refine own_aconst X0 hx hby d8_20 (pc' := 21) rfl ?_
        exact own_retA X0 hx hby Bd.notSynchronized Bd.returns rfl rfl d8_21 (by decide) (by decide) eH0 ⟨(own_pk4 hc1 hc2 hc3 hr), N0, rfl⟩
theorem ef8n (m : MethodId) (x1 : Addr) (x2 : Addr) (x3 : Addr) : entryFrame m #[(.int (3 : Int32)), (.ref x1), (.ref x2), (.ref x3)] 4 = mkF m 0 #[.val (.int (3 : Int32)), .val (.ref x1), .val (.ref x2), .val (.ref x3)] [] := by first | (simp [entryFrame, mkF, argsToLocals, Value.category]; done) | rfl
def Q8n (Z : State) (o1 : Addr) (o2 : Addr) (o3 : Addr) (h0 : Heap) (n0 : Nat) (v : Option Value) (h : Heap) (L : List Loc) : Prop := v = some .null ∧ Fr n0 L ∧ h0 = h
set_option maxRecDepth 65536 in
set_option maxHeartbeats 40000000 in
theorem rm8n (l : Launch) (Z : State) (a0 : Array Value) (hw : ∀ d ∈ tables_1, d.before a0 Z = true) (ws : List Jvm.Cond) (o1 : Addr) (o2 : Addr) (o3 : Addr) (h0 : Heap) (n0 : Nat) (Z0 : n0 ≤ h0.size) :
    MetFree l (⟨"com/example/phlow/phlow/engine/LaneIndexOfPinLaw", "pick", "(ILcom/example/phlow/phlow/engine/Vehicle;Lcom/example/phlow/phlow/engine/Vehicle;Lcom/example/phlow/phlow/engine/Vehicle;)Lcom/example/phlow/phlow/engine/Vehicle;"⟩ : MethodName) (head1 (Jvm.Cond.code (⟨"com/example/phlow/phlow/engine/LaneIndexOfPinLaw", "pick", "(ILcom/example/phlow/phlow/engine/Vehicle;Lcom/example/phlow/phlow/engine/Vehicle;Lcom/example/phlow/phlow/engine/Vehicle;)Lcom/example/phlow/phlow/engine/Vehicle;"⟩ : MethodName) method_2_code 4 (some (.object "com/example/phlow/phlow/engine/Vehicle")) :: ws) ({ frames := 0, cells := 0, slots := 0, locals := 0 } : Room)) (fun a U => a = #[(.int (3 : Int32)), (.ref o1), (.ref o2), (.ref o3)] ∧ Z.Warmed39 U.vm ∧ U.heap = h0) (fun _ _ _ _ _ => True) (fun _ U o U' => ∃ v L, o = .returned v ∧ Q8n Z o1 o2 o3 h0 n0 v U'.heap L ∧ FrameEnd U o U' L ({ frames := 0, cells := 0, slots := 0, locals := 0 } : Room).cells ({ frames := 0, cells := 0, slots := 0, locals := 0 } : Room).slots) := by
  refine MetFree.of_bodySF (plainFor_of_name pn_com_example_phlow_phlow_engine_LaneIndexOfPinLaw) hisR ?_
  intro p e s m args below meth c s₁ Bd hml0 hP hK
  obtain ⟨rfl, hZ, hhp⟩ := hP
  have hx := Bd.exec
  have hby := Bd.bytes
  have hml : c.maxLocals = 4 := hml0
  have hown : s.vm.findClass "com/example/phlow/phlow/engine/LaneIndexOfPinLaw" = some m.cls := findClass_of_methodNamed Bd.named
  have hnm := (name_of_methodNamed Bd.named Bd.method).1
  have X0 : Stand p l e ({ frames := 0, cells := 0, slots := 0, locals := 0 } : Room) s m #[(.int (3 : Int32)), (.ref o1), (.ref o2), (.ref o3)] below meth c s₁ [] 0 0 := Stand.of_body Bd
  have eH0 : s₁.heap = h0 := by rw [← hhp, Bd.state]; rfl
  have N0 := Fr.nil n0
  show Gt p.tables e below (fun o U' => ∃ v L, o = .returned v ∧ Q8n Z o1 o2 o3 h0 n0 v U'.heap L ∧ FrameEnd s o U' L ({ frames := 0, cells := 0, slots := 0, locals := 0 } : Room).cells ({ frames := 0, cells := 0, slots := 0, locals := 0 } : Room).slots) _
  refine own_cast (ef8n m o1 o2 o3) ?_
  refine own_iloadN X0 hx hby rfl d8_0 (pc' := 1) rfl ?_
  refine own_ifT X0 hx hby d8_1 (by decide) (by decide) (pc' := 6) (by decide) ?_
  refine own_iloadN X0 hx hby rfl d8_6 (pc' := 7) rfl ?_
  refine own_iconst X0 hx hby (v := (1 : Int32)) (by decide) d8_7 (pc' := 8) rfl ?_
  refine own_icT X0 hx hby d8_8 (by decide) (by decide) (pc' := 13) (by decide) ?_
  refine own_iloadN X0 hx hby rfl d8_13 (pc' := 14) rfl ?_
  refine own_iconst X0 hx hby (v := (2 : Int32)) (by decide) d8_14 (pc' := 15) rfl ?_
  refine own_icT X0 hx hby d8_15 (by decide) (by decide) (pc' := 20) (by decide) ?_
  refine own_aconst X0 hx hby d8_20 (pc' := 21) rfl ?_
  exact own_retA X0 hx hby Bd.notSynchronized Bd.returns rfl rfl d8_21 (by decide) (by decide) eH0 ⟨rfl, N0, rfl⟩
theorem ef10s0 (m : MethodId) (x0 : Addr) (x1 : Addr) : entryFrame m #[(.ref x0), (.ref x1)] 3 = mkF m 0 #[.val (.ref x0), .val (.ref x1), .unset] [] := by first | (simp [entryFrame, mkF, argsToLocals, Value.category]; done) | rfl
def Q10s0 (Z : State) (o0 : Addr) (o1 : Addr) (vehicles_o0 : Addr) (link_o0 : Int32) (part_o0 : Int32) (h0 : Heap) (n0 : Nat) (v : Option Value) (h : Heap) (L : List Loc) : Prop := v = some (.int (0 : Int32)) ∧ Fr n0 L ∧ Keep h0 h [vehicles_o0, o0] ∧ Ary (ovO Z "com/example/phlow/phlow/engine/Vehicle") Z h vehicles_o0 (.object "com/example/phlow/phlow/engine/Vehicle") [(.ref o1), .null, .null, .null] ∧ Exa Z h o0 "com/example/phlow/phlow/engine/Lane" ∧ Fld Z h o0 "com/example/phlow/phlow/engine/Lane" "vehicles" "[Lcom/example/phlow/phlow/engine/Vehicle;" (.ref vehicles_o0) ∧ Fld Z h o0 "com/example/phlow/phlow/engine/Lane" "link" "I" (.int link_o0) ∧ Fld Z h o0 "com/example/phlow/phlow/engine/Lane" "part" "I" (.int part_o0) ∧ Fld Z h o0 "com/example/phlow/phlow/engine/Lane" "size" "I" (.int (1 : Int32))
set_option maxRecDepth 65536 in
set_option maxHeartbeats 40000000 in
theorem rm10s0 (l : Launch) (Z : State) (a0 : Array Value) (hw : ∀ d ∈ tables_1, d.before a0 Z = true) (ws : List Jvm.Cond) (o0 : Addr) (o1 : Addr) (vehicles_o0 : Addr) (link_o0 : Int32) (part_o0 : Int32) (h0 : Heap) (n0 : Nat) (Z0 : n0 ≤ h0.size) (F_o0_vehicles : Fld Z h0 o0 "com/example/phlow/phlow/engine/Lane" "vehicles" "[Lcom/example/phlow/phlow/engine/Vehicle;" (.ref vehicles_o0)) (F_o0_link : Fld Z h0 o0 "com/example/phlow/phlow/engine/Lane" "link" "I" (.int link_o0)) (F_o0_part : Fld Z h0 o0 "com/example/phlow/phlow/engine/Lane" "part" "I" (.int part_o0)) (F_o0_size : Fld Z h0 o0 "com/example/phlow/phlow/engine/Lane" "size" "I" (.int (0 : Int32))) (V_vehicles_o0 : Ary (ovO Z "com/example/phlow/phlow/engine/Vehicle") Z h0 vehicles_o0 (.object "com/example/phlow/phlow/engine/Vehicle") [.null, .null, .null, .null]) (E_o1 : Exa Z h0 o1 "com/example/phlow/phlow/engine/Vehicle") (F_o1_pos : Fld Z h0 o1 "com/example/phlow/phlow/engine/Vehicle" "pos" "D" (.double (0 : UInt64))) (E_o0 : Exa Z h0 o0 "com/example/phlow/phlow/engine/Lane") (g_vehicles_o0 : n0 ≤ vehicles_o0) (ne_o0_vehicles_o0 : o0 ≠ vehicles_o0) (ne_o1_vehicles_o0 : o1 ≠ vehicles_o0) (g_o0 : n0 ≤ o0) (ne_o1_o0 : o1 ≠ o0) :
    MetFree l (⟨"com/example/phlow/phlow/engine/Lane", "insert", "(Lcom/example/phlow/phlow/engine/Vehicle;)I"⟩ : MethodName) (head1 (Jvm.Cond.code (⟨"com/example/phlow/phlow/engine/Lane", "insert", "(Lcom/example/phlow/phlow/engine/Vehicle;)I"⟩ : MethodName) prog_11_method_6_code 3 (some .int) :: ws) ({ frames := 1, cells := 0, slots := 0, locals := 18 } : Room)) (fun a U => a = #[(.ref o0), (.ref o1)] ∧ Z.Warmed39 U.vm ∧ U.heap = h0) (fun _ _ _ _ _ => True) (fun _ U o U' => ∃ v L, o = .returned v ∧ Q10s0 Z o0 o1 vehicles_o0 link_o0 part_o0 h0 n0 v U'.heap L ∧ FrameEnd U o U' L ({ frames := 1, cells := 0, slots := 0, locals := 18 } : Room).cells ({ frames := 1, cells := 0, slots := 0, locals := 18 } : Room).slots) := by
  refine MetFree.of_bodySF (plainFor_of_name pn_com_example_phlow_phlow_engine_Lane) hisR ?_
  intro p e s m args below meth c s₁ Bd hml0 hP hK
  obtain ⟨rfl, hZ, hhp⟩ := hP
  have hx := Bd.exec
  have hby := Bd.bytes
  have hml : c.maxLocals = 3 := hml0
  have hown : s.vm.findClass "com/example/phlow/phlow/engine/Lane" = some m.cls := findClass_of_methodNamed Bd.named
  have hnm := (name_of_methodNamed Bd.named Bd.method).1
  have X0 : Stand p l e ({ frames := 1, cells := 0, slots := 0, locals := 18 } : Room) s m #[(.ref o0), (.ref o1)] below meth c s₁ [] 0 0 := Stand.of_body Bd
  have eH0 : s₁.heap = h0 := by rw [← hhp, Bd.state]; rfl
  have N0 := Fr.nil n0
  have K0 := Keep.refl h0 [vehicles_o0, o0]
  show Gt p.tables e below (fun o U' => ∃ v L, o = .returned v ∧ Q10s0 Z o0 o1 vehicles_o0 link_o0 part_o0 h0 n0 v U'.heap L ∧ FrameEnd s o U' L ({ frames := 1, cells := 0, slots := 0, locals := 18 } : Room).cells ({ frames := 1, cells := 0, slots := 0, locals := 18 } : Room).slots) _
  refine own_cast (ef10s0 m o0 o1) ?_
  refine own_iconst X0 hx hby (v := (0 : Int32)) (by decide) d10_0 (pc' := 1) rfl ?_
  refine own_istoreN X0 hx hby (L' := #[.val (.ref o0), .val (.ref o1), .val (.int (0 : Int32))]) rfl d10_1 (pc' := 2) rfl ?_
  refine own_iloadN X0 hx hby rfl d10_2 (pc' := 3) rfl ?_
  refine own_aloadN X0 hx hby rfl rfl d10_3 (pc' := 4) rfl ?_
  refine own_getF X0 hx hby hZ hown (host := "") (Or.inl (hw _ (List.mem_of_getElem? (i := 100) rfl))) Via.refl eH0 F_o0_size d10_4 (pc' := 7) rfl (fun T1 X1 eH1 => ?_)
  refine own_icT X1 hx hby d10_7 (by decide) (by decide) (pc' := 33) (by decide) ?_
  refine own_aloadN X1 hx hby rfl rfl d10_33 (pc' := 34) rfl ?_
  refine own_getF X1 hx hby hZ hown (host := "") (Or.inl (hw _ (List.mem_of_getElem? (i := 100) rfl))) Via.refl eH1 F_o0_size d10_34 (pc' := 37) rfl (fun T2 X2 eH2 => ?_)
  refine own_aloadN X2 hx hby rfl rfl d10_37 (pc' := 38) rfl ?_
  refine own_getF X2 hx hby hZ hown (host := "") (Or.inl (hw _ (List.mem_of_getElem? (i := 85) rfl))) Via.refl eH2 F_o0_vehicles d10_38 (pc' := 41) rfl (fun T3 X3 eH3 => ?_)
  refine own_alen X3 hx hby hZ eH3 V_vehicles_o0 (z := (4 : Int32)) (by first | rfl | decide) d10_41 (pc' := 42) rfl ?_
  refine own_icT X3 hx hby d10_42 (by decide) (by decide) (pc' := 65) (by decide) ?_
  refine own_aloadN X3 hx hby rfl rfl d10_65 (pc' := 66) rfl ?_
  refine own_getF X3 hx hby hZ hown (host := "") (Or.inl (hw _ (List.mem_of_getElem? (i := 85) rfl))) Via.refl eH3 F_o0_vehicles d10_66 (pc' := 69) rfl (fun T4 X4 eH4 => ?_)
  refine own_iloadN X4 hx hby rfl d10_69 (pc' := 70) rfl ?_
  refine own_aloadN X4 hx hby rfl rfl d10_70 (pc' := 71) rfl ?_
  refine own_getF X4 hx hby hZ hown (host := "") (Or.inl (hw _ (List.mem_of_getElem? (i := 85) rfl))) Via.refl eH4 F_o0_vehicles d10_71 (pc' := 74) rfl (fun T5 X5 eH5 => ?_)
  refine own_iloadN X5 hx hby rfl d10_74 (pc' := 75) rfl ?_
  refine own_iconst X5 hx hby (v := (1 : Int32)) (by decide) d10_75 (pc' := 76) rfl ?_
  refine own_iadd X5 hx hby (v := (1 : Int32)) (by decide) d10_76 (pc' := 77) rfl ?_
  refine own_aloadN X5 hx hby rfl rfl d10_77 (pc' := 78) rfl ?_
  refine own_getF X5 hx hby hZ hown (host := "") (Or.inl (hw _ (List.mem_of_getElem? (i := 100) rfl))) Via.refl eH5 F_o0_size d10_78 (pc' := 81) rfl (fun T6 X6 eH6 => ?_)
  refine own_iloadN X6 hx hby rfl d10_81 (pc' := 82) rfl ?_
  refine own_isub X6 hx hby (v := (0 : Int32)) (by decide) d10_82 (pc' := 83) rfl ?_
  refine own_cpR X6 hx hby hZ hown (hw _ (List.mem_of_getElem? (i := 107) rfl)) (hw _ (List.mem_of_getElem? (i := 110) rfl)) (hw _ (List.mem_of_getElem? (i := 108) rfl)) (hw _ (List.mem_of_getElem? (i := 109) rfl)) eH6 (C := "com/example/phlow/phlow/engine/Vehicle") V_vehicles_o0 (z := 4) (S := 0) (D := 1) (N := 0) (of_decide_eq_true rfl) (by decide) (by decide) (by decide) (by decide) (by decide) (by decide) (by decide) (of_decide_eq_true rfl) (of_decide_eq_true rfl) (us := []) (us' := [.null, .null, .null, .null]) rfl (fun i hi => by rcases i with _ | _ | _ | _ | i <;> first | rfl | exact absurd hi (by simp)) own_el0 rfl rfl N0 g_vehicles_o0 (by rw [hml]; rfl) d10_83 (pc' := 86) rfl (by decide) (W := 0) (Nat.le_of_eq rfl) (by decide) (fun T7 h7 Lc7 X7 eH7 N7 Kq7 V_vehicles_o0 => ?_)
  replace E_o0 := E_o0.keep Kq7
  replace F_o0_vehicles := F_o0_vehicles.keep Kq7 (ninS ne_o0_vehicles_o0 nin0)
  replace F_o0_link := F_o0_link.keep Kq7 (ninS ne_o0_vehicles_o0 nin0)
  replace F_o0_part := F_o0_part.keep Kq7 (ninS ne_o0_vehicles_o0 nin0)
  replace F_o0_size := F_o0_size.keep Kq7 (ninS ne_o0_vehicles_o0 nin0)
  replace E_o1 := E_o1.keep Kq7
  replace F_o1_pos := F_o1_pos.keep Kq7 (ninS ne_o1_vehicles_o0 nin0)
  replace K0 := K0.trans Kq7 (allS (Or.inl (by simp)) all0)
  replace Z0 := Nat.le_trans Z0 Kq7.1
  refine own_aloadN X7 hx hby rfl rfl d10_86 (pc' := 87) rfl ?_
  refine own_getF X7 hx hby hZ hown (host := "") (Or.inl (hw _ (List.mem_of_getElem? (i := 85) rfl))) Via.refl eH7 F_o0_vehicles d10_87 (pc' := 90) rfl (fun T8 X8 eH8 => ?_)
  refine own_iloadN X8 hx hby rfl d10_90 (pc' := 91) rfl ?_
  refine own_aloadN X8 hx hby rfl rfl d10_91 (pc' := 92) rfl ?_
  refine own_aastoreO X8 hx hby hZ eH8 V_vehicles_o0 E_o1 (by decide) (n := 0) (by decide) (of_decide_eq_true rfl) d10_92 (pc' := 93) rfl (fun T9 h9 X9 eH9 W9 => ?_)
  replace E_o0 := E_o0.wr W9
  replace F_o0_vehicles := F_o0_vehicles.other W9 (Or.inl ne_o0_vehicles_o0)
  replace F_o0_link := F_o0_link.other W9 (Or.inl ne_o0_vehicles_o0)
  replace F_o0_part := F_o0_part.other W9 (Or.inl ne_o0_vehicles_o0)
  replace F_o0_size := F_o0_size.other W9 (Or.inl ne_o0_vehicles_o0)
  replace E_o1 := E_o1.wr W9
  replace F_o1_pos := F_o1_pos.other W9 (Or.inl ne_o1_vehicles_o0)
  have N9 := Fr.snoc X9 N7 g_vehicles_o0
  replace K0 := K0.wr W9 (Or.inl (by simp))
  replace Z0 := Nat.le_trans Z0 (Nat.le_of_eq W9.size.symm)
  replace V_vehicles_o0 : Ary (ovO Z "com/example/phlow/phlow/engine/Vehicle") Z h9 vehicles_o0 (.object "com/example/phlow/phlow/engine/Vehicle") [(.ref o1), .null, .null, .null] := V_vehicles_o0.set W9
  refine own_aloadN X9 hx hby rfl rfl d10_93 (pc' := 94) rfl ?_
  refine own_dup X9 hx hby rfl d10_94 (pc' := 95) rfl ?_
  refine own_getF X9 hx hby hZ hown (host := "") (Or.inl (hw _ (List.mem_of_getElem? (i := 100) rfl))) Via.refl eH9 F_o0_size d10_95 (pc' := 98) rfl (fun T10 X10 eH10 => ?_)
  refine own_iconst X10 hx hby (v := (1 : Int32)) (by decide) d10_98 (pc' := 99) rfl ?_
  refine own_iadd X10 hx hby (v := (1 : Int32)) (by decide) d10_99 (pc' := 100) rfl ?_
  refine own_putF X10 hx hby hZ hown (host := "") (Or.inl (hw _ (List.mem_of_getElem? (i := 100) rfl))) Via.refl eH10 F_o0_size E_o0 (Or.inl (hw _ (List.mem_of_getElem? (i := 101) rfl))) (hw _ (List.mem_of_getElem? (i := 77) rfl)) (ty := .int) (by decide) rfl rfl d10_100 (pc' := 103) rfl (fun T11 h11 X11 eH11 W11 => ?_)
  replace E_o0 := E_o0.wr W11
  replace F_o0_vehicles := F_o0_vehicles.other W11 (Or.inr (slot_ne (Or.inl (hw _ (List.mem_of_getElem? (i := 86) rfl))) (Or.inl (hw _ (List.mem_of_getElem? (i := 101) rfl))) (by decide) (t := (.array (.object "com/example/phlow/phlow/engine/Vehicle"))) (t' := .int) (by decide) (by decide)))
  replace F_o0_link := F_o0_link.other W11 (Or.inr (slot_ne (Or.inr (hw _ (List.mem_of_getElem? (i := 88) rfl))) (Or.inl (hw _ (List.mem_of_getElem? (i := 101) rfl))) (by decide) (t := .int) (t' := .int) (by decide) (by decide)))
  replace F_o0_part := F_o0_part.other W11 (Or.inr (slot_ne (Or.inr (hw _ (List.mem_of_getElem? (i := 90) rfl))) (Or.inl (hw _ (List.mem_of_getElem? (i := 101) rfl))) (by decide) (t := .int) (t' := .int) (by decide) (by decide)))
  replace F_o0_size := F_o0_size.same W11
  replace E_o1 := E_o1.wr W11
  replace F_o1_pos := F_o1_pos.other W11 (Or.inl ne_o1_o0)
  replace V_vehicles_o0 := V_vehicles_o0.other W11 (Ne.symm ne_o0_vehicles_o0)
  have N11 := Fr.snoc X11 N9 g_o0
  replace K0 := K0.wr W11 (Or.inl (by simp))
  replace Z0 := Nat.le_trans Z0 (Nat.le_of_eq W11.size.symm)
  refine own_iloadN X11 hx hby rfl d10_103 (pc' := 104) rfl ?_
  exact own_retI X11 hx hby Bd.notSynchronized Bd.returns d10_104 (by decide) (by decide) eH11 ⟨rfl, N11, K0, V_vehicles_o0, E_o0, F_o0_vehicles, F_o0_link, F_o0_part, F_o0_size⟩
theorem ef10s1 (m : MethodId) (x0 : Addr) (x1 : Addr) : entryFrame m #[(.ref x0), (.ref x1)] 3 = mkF m 0 #[.val (.ref x0), .val (.ref x1), .unset] [] := by first | (simp [entryFrame, mkF, argsToLocals, Value.category]; done) | rfl
def Q10s1 (Z : State) (o0 : Addr) (o1 : Addr) (vehicles_o0 : Addr) (link_o0 : Int32) (part_o0 : Int32) (x0 : Addr) (h0 : Heap) (n0 : Nat) (v : Option Value) (h : Heap) (L : List Loc) : Prop := v = some (.int (0 : Int32)) ∧ Fr n0 L ∧ Keep h0 h [vehicles_o0, o0] ∧ Ary (ovO Z "com/example/phlow/phlow/engine/Vehicle") Z h vehicles_o0 (.object "com/example/phlow/phlow/engine/Vehicle") [(.ref o1), (.ref x0), .null, .null] ∧ Exa Z h o0 "com/example/phlow/phlow/engine/Lane" ∧ Fld Z h o0 "com/example/phlow/phlow/engine/Lane" "vehicles" "[Lcom/example/phlow/phlow/engine/Vehicle;" (.ref vehicles_o0) ∧ Fld Z h o0 "com/example/phlow/phlow/engine/Lane" "link" "I" (.int link_o0) ∧ Fld Z h o0 "com/example/phlow/phlow/engine/Lane" "part" "I" (.int part_o0) ∧ Fld Z h o0 "com/example/phlow/phlow/engine/Lane" "size" "I" (.int (2 : Int32))
set_option maxRecDepth 65536 in
set_option maxHeartbeats 40000000 in
theorem rm10s1 (l : Launch) (Z : State) (a0 : Array Value) (hw : ∀ d ∈ tables_1, d.before a0 Z = true) (ws : List Jvm.Cond) (o0 : Addr) (o1 : Addr) (vehicles_o0 : Addr) (link_o0 : Int32) (part_o0 : Int32) (x0 : Addr) (h0 : Heap) (n0 : Nat) (Z0 : n0 ≤ h0.size) (F_o0_vehicles : Fld Z h0 o0 "com/example/phlow/phlow/engine/Lane" "vehicles" "[Lcom/example/phlow/phlow/engine/Vehicle;" (.ref vehicles_o0)) (F_o0_link : Fld Z h0 o0 "com/example/phlow/phlow/engine/Lane" "link" "I" (.int link_o0)) (F_o0_part : Fld Z h0 o0 "com/example/phlow/phlow/engine/Lane" "part" "I" (.int part_o0)) (F_o0_size : Fld Z h0 o0 "com/example/phlow/phlow/engine/Lane" "size" "I" (.int (1 : Int32))) (V_vehicles_o0 : Ary (ovO Z "com/example/phlow/phlow/engine/Vehicle") Z h0 vehicles_o0 (.object "com/example/phlow/phlow/engine/Vehicle") [(.ref x0), .null, .null, .null]) (E_x0 : Exa Z h0 x0 "com/example/phlow/phlow/engine/Vehicle") (F_x0_pos : Fld Z h0 x0 "com/example/phlow/phlow/engine/Vehicle" "pos" "D" (.double (0 : UInt64))) (E_o1 : Exa Z h0 o1 "com/example/phlow/phlow/engine/Vehicle") (F_o1_pos : Fld Z h0 o1 "com/example/phlow/phlow/engine/Vehicle" "pos" "D" (.double (0 : UInt64))) (E_o0 : Exa Z h0 o0 "com/example/phlow/phlow/engine/Lane") (g_vehicles_o0 : n0 ≤ vehicles_o0) (ne_o0_vehicles_o0 : o0 ≠ vehicles_o0) (ne_o1_vehicles_o0 : o1 ≠ vehicles_o0) (ne_x0_vehicles_o0 : x0 ≠ vehicles_o0) (g_o0 : n0 ≤ o0) (ne_o1_o0 : o1 ≠ o0) (ne_x0_o0 : x0 ≠ o0) :
    MetFree l (⟨"com/example/phlow/phlow/engine/Lane", "insert", "(Lcom/example/phlow/phlow/engine/Vehicle;)I"⟩ : MethodName) (head1 (Jvm.Cond.code (⟨"com/example/phlow/phlow/engine/Lane", "insert", "(Lcom/example/phlow/phlow/engine/Vehicle;)I"⟩ : MethodName) prog_11_method_6_code 3 (some .int) :: ws) ({ frames := 1, cells := 0, slots := 0, locals := 18 } : Room)) (fun a U => a = #[(.ref o0), (.ref o1)] ∧ Z.Warmed39 U.vm ∧ U.heap = h0) (fun _ _ _ _ _ => True) (fun _ U o U' => ∃ v L, o = .returned v ∧ Q10s1 Z o0 o1 vehicles_o0 link_o0 part_o0 x0 h0 n0 v U'.heap L ∧ FrameEnd U o U' L ({ frames := 1, cells := 0, slots := 0, locals := 18 } : Room).cells ({ frames := 1, cells := 0, slots := 0, locals := 18 } : Room).slots) := by
  refine MetFree.of_bodySF (plainFor_of_name pn_com_example_phlow_phlow_engine_Lane) hisR ?_
  intro p e s m args below meth c s₁ Bd hml0 hP hK
  obtain ⟨rfl, hZ, hhp⟩ := hP
  have hx := Bd.exec
  have hby := Bd.bytes
  have hml : c.maxLocals = 3 := hml0
  have hown : s.vm.findClass "com/example/phlow/phlow/engine/Lane" = some m.cls := findClass_of_methodNamed Bd.named
  have hnm := (name_of_methodNamed Bd.named Bd.method).1
  have X0 : Stand p l e ({ frames := 1, cells := 0, slots := 0, locals := 18 } : Room) s m #[(.ref o0), (.ref o1)] below meth c s₁ [] 0 0 := Stand.of_body Bd
  have eH0 : s₁.heap = h0 := by rw [← hhp, Bd.state]; rfl
  have N0 := Fr.nil n0
  have K0 := Keep.refl h0 [vehicles_o0, o0]
  show Gt p.tables e below (fun o U' => ∃ v L, o = .returned v ∧ Q10s1 Z o0 o1 vehicles_o0 link_o0 part_o0 x0 h0 n0 v U'.heap L ∧ FrameEnd s o U' L ({ frames := 1, cells := 0, slots := 0, locals := 18 } : Room).cells ({ frames := 1, cells := 0, slots := 0, locals := 18 } : Room).slots) _
  refine own_cast (ef10s1 m o0 o1) ?_
  refine own_iconst X0 hx hby (v := (0 : Int32)) (by decide) d10_0 (pc' := 1) rfl ?_
  refine own_istoreN X0 hx hby (L' := #[.val (.ref o0), .val (.ref o1), .val (.int (0 : Int32))]) rfl d10_1 (pc' := 2) rfl ?_
  refine own_iloadN X0 hx hby rfl d10_2 (pc' := 3) rfl ?_
  refine own_aloadN X0 hx hby rfl rfl d10_3 (pc' := 4) rfl ?_
  refine own_getF X0 hx hby hZ hown (host := "") (Or.inl (hw _ (List.mem_of_getElem? (i := 100) rfl))) Via.refl eH0 F_o0_size d10_4 (pc' := 7) rfl (fun T1 X1 eH1 => ?_)
  refine own_icF X1 hx hby d10_7 (by decide) (pc' := 10) rfl ?_
  refine own_aloadN X1 hx hby rfl rfl d10_10 (pc' := 11) rfl ?_
  refine own_getF X1 hx hby hZ hown (host := "") (Or.inl (hw _ (List.mem_of_getElem? (i := 85) rfl))) Via.refl eH1 F_o0_vehicles d10_11 (pc' := 14) rfl (fun T2 X2 eH2 => ?_)
  refine own_iloadN X2 hx hby rfl d10_14 (pc' := 15) rfl ?_
  refine own_aaload X2 hx hby hZ eH2 V_vehicles_o0 rfl (by decide) (v := (.ref x0)) rfl d10_15 (pc' := 16) rfl ?_
  refine own_virtual X2 hx hby hZ (y := (⟨"com/example/phlow/phlow/engine/Vehicle", "pos", "()D"⟩ : MethodName)) (y' := (⟨"com/example/phlow/phlow/engine/Vehicle", "pos", "()D"⟩ : MethodName)) (C := "com/example/phlow/phlow/engine/Vehicle") (rest := []) hown (hw _ (List.mem_of_getElem? (i := 112) rfl)) (hw _ (List.mem_of_getElem? (i := 113) rfl)) (notFace_of_selects (args := #[]) (mvT hZ (hw _ (List.mem_of_getElem? (i := 115) rfl)))) (hw _ (List.mem_of_getElem? (i := 115) rfl)) (hw _ (List.mem_of_getElem? (i := 114) rfl)) (hw _ (List.mem_of_getElem? (i := 116) rfl)) (hw _ (List.mem_of_getElem? (i := 34) rfl)) (by decide) (rm11 l Z a0 hw [] x0 (0 : UInt64) h0 n0 Z0 F_x0_pos) eH2 (by rw [hml]; rfl) (a := x0) E_x0 (argsL := []) rfl (lenOf pd_2 rfl) rfl d10_16 (pc' := 19) rfl (by decide) (W := 0) (Nat.le_of_eq rfl) (by decide) (by decide) (by decide) (fun T3 h3 Lc3 v3r X3 eH3 hQ3 => ?_)
  obtain ⟨rfl, Nq3, rfl⟩ := hQ3
  have N3 := Fr.app N0 Nq3
  refine own_aloadN X3 hx hby rfl rfl d10_19 (pc' := 20) rfl ?_
  refine own_virtual X3 hx hby hZ (y := (⟨"com/example/phlow/phlow/engine/Vehicle", "pos", "()D"⟩ : MethodName)) (y' := (⟨"com/example/phlow/phlow/engine/Vehicle", "pos", "()D"⟩ : MethodName)) (C := "com/example/phlow/phlow/engine/Vehicle") (rest := [(.double (0 : UInt64))]) hown (hw _ (List.mem_of_getElem? (i := 112) rfl)) (hw _ (List.mem_of_getElem? (i := 113) rfl)) (notFace_of_selects (args := #[]) (mvT hZ (hw _ (List.mem_of_getElem? (i := 115) rfl)))) (hw _ (List.mem_of_getElem? (i := 115) rfl)) (hw _ (List.mem_of_getElem? (i := 114) rfl)) (hw _ (List.mem_of_getElem? (i := 116) rfl)) (hw _ (List.mem_of_getElem? (i := 34) rfl)) (by decide) (rm11 l Z a0 hw [] o1 (0 : UInt64) h0 n0 Z0 F_o1_pos) eH3 (by rw [hml]; rfl) (a := o1) E_o1 (argsL := []) rfl (lenOf pd_2 rfl) rfl d10_20 (pc' := 23) rfl (by decide) (W := 2) (Nat.le_of_eq rfl) (by decide) (by decide) (by decide) (fun T4 h4 Lc4 v4r X4 eH4 hQ4 => ?_)
  obtain ⟨rfl, Nq4, rfl⟩ := hQ4
  have N4 := Fr.app N3 Nq4
  refine own_dcmp X4 hx hby rfl d10_23 (pc' := 24) rfl ?_
  have hk5 : ¬ (dlt (0 : UInt64) (0 : UInt64)) := by decide +kernel
  refine own_ifT X4 hx hby d10_24 (own_dg_ge_n hk5) (by decide) (pc' := 33) (by decide) ?_
  refine own_aloadN X4 hx hby rfl rfl d10_33 (pc' := 34) rfl ?_
  refine own_getF X4 hx hby hZ hown (host := "") (Or.inl (hw _ (List.mem_of_getElem? (i := 100) rfl))) Via.refl eH4 F_o0_size d10_34 (pc' := 37) rfl (fun T6 X6 eH6 => ?_)
  refine own_aloadN X6 hx hby rfl rfl d10_37 (pc' := 38) rfl ?_
  refine own_getF X6 hx hby hZ hown (host := "") (Or.inl (hw _ (List.mem_of_getElem? (i := 85) rfl))) Via.refl eH6 F_o0_vehicles d10_38 (pc' := 41) rfl (fun T7 X7 eH7 => ?_)
  refine own_alen X7 hx hby hZ eH7 V_vehicles_o0 (z := (4 : Int32)) (by first | rfl | decide) d10_41 (pc' := 42) rfl ?_
  refine own_icT X7 hx hby d10_42 (by decide) (by decide) (pc' := 65) (by decide) ?_
  refine own_aloadN X7 hx hby rfl rfl d10_65 (pc' := 66) rfl ?_
  refine own_getF X7 hx hby hZ hown (host := "") (Or.inl (hw _ (List.mem_of_getElem? (i := 85) rfl))) Via.refl eH7 F_o0_vehicles d10_66 (pc' := 69) rfl (fun T8 X8 eH8 => ?_)
  refine own_iloadN X8 hx hby rfl d10_69 (pc' := 70) rfl ?_
  refine own_aloadN X8 hx hby rfl rfl d10_70 (pc' := 71) rfl ?_
  refine own_getF X8 hx hby hZ hown (host := "") (Or.inl (hw _ (List.mem_of_getElem? (i := 85) rfl))) Via.refl eH8 F_o0_vehicles d10_71 (pc' := 74) rfl (fun T9 X9 eH9 => ?_)
  refine own_iloadN X9 hx hby rfl d10_74 (pc' := 75) rfl ?_
  refine own_iconst X9 hx hby (v := (1 : Int32)) (by decide) d10_75 (pc' := 76) rfl ?_
  refine own_iadd X9 hx hby (v := (1 : Int32)) (by decide) d10_76 (pc' := 77) rfl ?_
  refine own_aloadN X9 hx hby rfl rfl d10_77 (pc' := 78) rfl ?_
  refine own_getF X9 hx hby hZ hown (host := "") (Or.inl (hw _ (List.mem_of_getElem? (i := 100) rfl))) Via.refl eH9 F_o0_size d10_78 (pc' := 81) rfl (fun T10 X10 eH10 => ?_)
  refine own_iloadN X10 hx hby rfl d10_81 (pc' := 82) rfl ?_
  refine own_isub X10 hx hby (v := (1 : Int32)) (by decide) d10_82 (pc' := 83) rfl ?_
  refine own_cpR X10 hx hby hZ hown (hw _ (List.mem_of_getElem? (i := 107) rfl)) (hw _ (List.mem_of_getElem? (i := 110) rfl)) (hw _ (List.mem_of_getElem? (i := 108) rfl)) (hw _ (List.mem_of_getElem? (i := 109) rfl)) eH10 (C := "com/example/phlow/phlow/engine/Vehicle") V_vehicles_o0 (z := 4) (S := 0) (D := 1) (N := 1) (of_decide_eq_true rfl) (by decide) (by decide) (by decide) (by decide) (by decide) (by decide) (by decide) (of_decide_eq_true rfl) (of_decide_eq_true rfl) (us := [(.ref x0)]) (us' := [(.ref x0), (.ref x0), .null, .null]) rfl (fun i hi => by rcases i with _ | _ | _ | _ | i <;> first | rfl | exact absurd hi (by simp)) (own_elS E_x0 own_el0) rfl rfl N4 g_vehicles_o0 (by rw [hml]; rfl) d10_83 (pc' := 86) rfl (by decide) (W := 0) (Nat.le_of_eq rfl) (by decide) (fun T11 h11 Lc11 X11 eH11 N11 Kq11 V_vehicles_o0 => ?_)
  replace E_o0 := E_o0.keep Kq11
  replace F_o0_vehicles := F_o0_vehicles.keep Kq11 (ninS ne_o0_vehicles_o0 nin0)
  replace F_o0_link := F_o0_link.keep Kq11 (ninS ne_o0_vehicles_o0 nin0)
  replace F_o0_part := F_o0_part.keep Kq11 (ninS ne_o0_vehicles_o0 nin0)
  replace F_o0_size := F_o0_size.keep Kq11 (ninS ne_o0_vehicles_o0 nin0)
  replace E_o1 := E_o1.keep Kq11
  replace F_o1_pos := F_o1_pos.keep Kq11 (ninS ne_o1_vehicles_o0 nin0)
  replace E_x0 := E_x0.keep Kq11
  replace F_x0_pos := F_x0_pos.keep Kq11 (ninS ne_x0_vehicles_o0 nin0)
  replace K0 := K0.trans Kq11 (allS (Or.inl (by simp)) all0)
  replace Z0 := Nat.le_trans Z0 Kq11.1
  refine own_aloadN X11 hx hby rfl rfl d10_86 (pc' := 87) rfl ?_
  refine own_getF X11 hx hby hZ hown (host := "") (Or.inl (hw _ (List.mem_of_getElem? (i := 85) rfl))) Via.refl eH11 F_o0_vehicles d10_87 (pc' := 90) rfl (fun T12 X12 eH12 => ?_)
  refine own_iloadN X12 hx hby rfl d10_90 (pc' := 91) rfl ?_
  refine own_aloadN X12 hx hby rfl rfl d10_91 (pc' := 92) rfl ?_
  refine own_aastoreO X12 hx hby hZ eH12 V_vehicles_o0 E_o1 (by decide) (n := 0) (by decide) (of_decide_eq_true rfl) d10_92 (pc' := 93) rfl (fun T13 h13 X13 eH13 W13 => ?_)
  replace E_o0 := E_o0.wr W13
  replace F_o0_vehicles := F_o0_vehicles.other W13 (Or.inl ne_o0_vehicles_o0)
  replace F_o0_link := F_o0_link.other W13 (Or.inl ne_o0_vehicles_o0)
  replace F_o0_part := F_o0_part.other W13 (Or.inl ne_o0_vehicles_o0)
  replace F_o0_size := F_o0_size.other W13 (Or.inl ne_o0_vehicles_o0)
  replace E_o1 := E_o1.wr W13
  replace F_o1_pos := F_o1_pos.other W13 (Or.inl ne_o1_vehicles_o0)
  replace E_x0 := E_x0.wr W13
  replace F_x0_pos := F_x0_pos.other W13 (Or.inl ne_x0_vehicles_o0)
  have N13 := Fr.snoc X13 N11 g_vehicles_o0
  replace K0 := K0.wr W13 (Or.inl (by simp))
  replace Z0 := Nat.le_trans Z0 (Nat.le_of_eq W13.size.symm)
  replace V_vehicles_o0 : Ary (ovO Z "com/example/phlow/phlow/engine/Vehicle") Z h13 vehicles_o0 (.object "com/example/phlow/phlow/engine/Vehicle") [(.ref o1), (.ref x0), .null, .null] := V_vehicles_o0.set W13
  refine own_aloadN X13 hx hby rfl rfl d10_93 (pc' := 94) rfl ?_
  refine own_dup X13 hx hby rfl d10_94 (pc' := 95) rfl ?_
  refine own_getF X13 hx hby hZ hown (host := "") (Or.inl (hw _ (List.mem_of_getElem? (i := 100) rfl))) Via.refl eH13 F_o0_size d10_95 (pc' := 98) rfl (fun T14 X14 eH14 => ?_)
  refine own_iconst X14 hx hby (v := (1 : Int32)) (by decide) d10_98 (pc' := 99) rfl ?_
  refine own_iadd X14 hx hby (v := (2 : Int32)) (by decide) d10_99 (pc' := 100) rfl ?_
  refine own_putF X14 hx hby hZ hown (host := "") (Or.inl (hw _ (List.mem_of_getElem? (i := 100) rfl))) Via.refl eH14 F_o0_size E_o0 (Or.inl (hw _ (List.mem_of_getElem? (i := 101) rfl))) (hw _ (List.mem_of_getElem? (i := 77) rfl)) (ty := .int) (by decide) rfl rfl d10_100 (pc' := 103) rfl (fun T15 h15 X15 eH15 W15 => ?_)
  replace E_o0 := E_o0.wr W15
  replace F_o0_vehicles := F_o0_vehicles.other W15 (Or.inr (slot_ne (Or.inl (hw _ (List.mem_of_getElem? (i := 86) rfl))) (Or.inl (hw _ (List.mem_of_getElem? (i := 101) rfl))) (by decide) (t := (.array (.object "com/example/phlow/phlow/engine/Vehicle"))) (t' := .int) (by decide) (by decide)))
  replace F_o0_link := F_o0_link.other W15 (Or.inr (slot_ne (Or.inr (hw _ (List.mem_of_getElem? (i := 88) rfl))) (Or.inl (hw _ (List.mem_of_getElem? (i := 101) rfl))) (by decide) (t := .int) (t' := .int) (by decide) (by decide)))
  replace F_o0_part := F_o0_part.other W15 (Or.inr (slot_ne (Or.inr (hw _ (List.mem_of_getElem? (i := 90) rfl))) (Or.inl (hw _ (List.mem_of_getElem? (i := 101) rfl))) (by decide) (t := .int) (t' := .int) (by decide) (by decide)))
  replace F_o0_size := F_o0_size.same W15
  replace E_o1 := E_o1.wr W15
  replace F_o1_pos := F_o1_pos.other W15 (Or.inl ne_o1_o0)
  replace V_vehicles_o0 := V_vehicles_o0.other W15 (Ne.symm ne_o0_vehicles_o0)
  replace E_x0 := E_x0.wr W15
  replace F_x0_pos := F_x0_pos.other W15 (Or.inl ne_x0_o0)
  have N15 := Fr.snoc X15 N13 g_o0
  replace K0 := K0.wr W15 (Or.inl (by simp))
  replace Z0 := Nat.le_trans Z0 (Nat.le_of_eq W15.size.symm)
  refine own_iloadN X15 hx hby rfl d10_103 (pc' := 104) rfl ?_
  exact own_retI X15 hx hby Bd.notSynchronized Bd.returns d10_104 (by decide) (by decide) eH15 ⟨rfl, N15, K0, V_vehicles_o0, E_o0, F_o0_vehicles, F_o0_link, F_o0_part, F_o0_size⟩
theorem ef10s2 (m : MethodId) (x0 : Addr) (x1 : Addr) : entryFrame m #[(.ref x0), (.ref x1)] 3 = mkF m 0 #[.val (.ref x0), .val (.ref x1), .unset] [] := by first | (simp [entryFrame, mkF, argsToLocals, Value.category]; done) | rfl
def Q10s2 (Z : State) (o0 : Addr) (o1 : Addr) (vehicles_o0 : Addr) (link_o0 : Int32) (part_o0 : Int32) (x0 : Addr) (x1 : Addr) (h0 : Heap) (n0 : Nat) (v : Option Value) (h : Heap) (L : List Loc) : Prop := v = some (.int (0 : Int32)) ∧ Fr n0 L ∧ Keep h0 h [vehicles_o0, o0] ∧ Ary (ovO Z "com/example/phlow/phlow/engine/Vehicle") Z h vehicles_o0 (.object "com/example/phlow/phlow/engine/Vehicle") [(.ref o1), (.ref x0), (.ref x1), .null] ∧ Exa Z h o0 "com/example/phlow/phlow/engine/Lane" ∧ Fld Z h o0 "com/example/phlow/phlow/engine/Lane" "vehicles" "[Lcom/example/phlow/phlow/engine/Vehicle;" (.ref vehicles_o0) ∧ Fld Z h o0 "com/example/phlow/phlow/engine/Lane" "link" "I" (.int link_o0) ∧ Fld Z h o0 "com/example/phlow/phlow/engine/Lane" "part" "I" (.int part_o0) ∧ Fld Z h o0 "com/example/phlow/phlow/engine/Lane" "size" "I" (.int (3 : Int32))
set_option maxRecDepth 65536 in
set_option maxHeartbeats 40000000 in
theorem rm10s2 (l : Launch) (Z : State) (a0 : Array Value) (hw : ∀ d ∈ tables_1, d.before a0 Z = true) (ws : List Jvm.Cond) (o0 : Addr) (o1 : Addr) (vehicles_o0 : Addr) (link_o0 : Int32) (part_o0 : Int32) (x0 : Addr) (x1 : Addr) (h0 : Heap) (n0 : Nat) (Z0 : n0 ≤ h0.size) (F_o0_vehicles : Fld Z h0 o0 "com/example/phlow/phlow/engine/Lane" "vehicles" "[Lcom/example/phlow/phlow/engine/Vehicle;" (.ref vehicles_o0)) (F_o0_link : Fld Z h0 o0 "com/example/phlow/phlow/engine/Lane" "link" "I" (.int link_o0)) (F_o0_part : Fld Z h0 o0 "com/example/phlow/phlow/engine/Lane" "part" "I" (.int part_o0)) (F_o0_size : Fld Z h0 o0 "com/example/phlow/phlow/engine/Lane" "size" "I" (.int (2 : Int32))) (V_vehicles_o0 : Ary (ovO Z "com/example/phlow/phlow/engine/Vehicle") Z h0 vehicles_o0 (.object "com/example/phlow/phlow/engine/Vehicle") [(.ref x0), (.ref x1), .null, .null]) (E_x0 : Exa Z h0 x0 "com/example/phlow/phlow/engine/Vehicle") (F_x0_pos : Fld Z h0 x0 "com/example/phlow/phlow/engine/Vehicle" "pos" "D" (.double (0 : UInt64))) (E_x1 : Exa Z h0 x1 "com/example/phlow/phlow/engine/Vehicle") (F_x1_pos : Fld Z h0 x1 "com/example/phlow/phlow/engine/Vehicle" "pos" "D" (.double (0 : UInt64))) (E_o1 : Exa Z h0 o1 "com/example/phlow/phlow/engine/Vehicle") (F_o1_pos : Fld Z h0 o1 "com/example/phlow/phlow/engine/Vehicle" "pos" "D" (.double (0 : UInt64))) (E_o0 : Exa Z h0 o0 "com/example/phlow/phlow/engine/Lane") (g_vehicles_o0 : n0 ≤ vehicles_o0) (ne_o0_vehicles_o0 : o0 ≠ vehicles_o0) (ne_o1_vehicles_o0 : o1 ≠ vehicles_o0) (ne_x0_vehicles_o0 : x0 ≠ vehicles_o0) (ne_x1_vehicles_o0 : x1 ≠ vehicles_o0) (g_o0 : n0 ≤ o0) (ne_o1_o0 : o1 ≠ o0) (ne_x0_o0 : x0 ≠ o0) (ne_x1_o0 : x1 ≠ o0) :
    MetFree l (⟨"com/example/phlow/phlow/engine/Lane", "insert", "(Lcom/example/phlow/phlow/engine/Vehicle;)I"⟩ : MethodName) (head1 (Jvm.Cond.code (⟨"com/example/phlow/phlow/engine/Lane", "insert", "(Lcom/example/phlow/phlow/engine/Vehicle;)I"⟩ : MethodName) prog_11_method_6_code 3 (some .int) :: ws) ({ frames := 1, cells := 0, slots := 0, locals := 18 } : Room)) (fun a U => a = #[(.ref o0), (.ref o1)] ∧ Z.Warmed39 U.vm ∧ U.heap = h0) (fun _ _ _ _ _ => True) (fun _ U o U' => ∃ v L, o = .returned v ∧ Q10s2 Z o0 o1 vehicles_o0 link_o0 part_o0 x0 x1 h0 n0 v U'.heap L ∧ FrameEnd U o U' L ({ frames := 1, cells := 0, slots := 0, locals := 18 } : Room).cells ({ frames := 1, cells := 0, slots := 0, locals := 18 } : Room).slots) := by
  refine MetFree.of_bodySF (plainFor_of_name pn_com_example_phlow_phlow_engine_Lane) hisR ?_
  intro p e s m args below meth c s₁ Bd hml0 hP hK
  obtain ⟨rfl, hZ, hhp⟩ := hP
  have hx := Bd.exec
  have hby := Bd.bytes
  have hml : c.maxLocals = 3 := hml0
  have hown : s.vm.findClass "com/example/phlow/phlow/engine/Lane" = some m.cls := findClass_of_methodNamed Bd.named
  have hnm := (name_of_methodNamed Bd.named Bd.method).1
  have X0 : Stand p l e ({ frames := 1, cells := 0, slots := 0, locals := 18 } : Room) s m #[(.ref o0), (.ref o1)] below meth c s₁ [] 0 0 := Stand.of_body Bd
  have eH0 : s₁.heap = h0 := by rw [← hhp, Bd.state]; rfl
  have N0 := Fr.nil n0
  have K0 := Keep.refl h0 [vehicles_o0, o0]
  show Gt p.tables e below (fun o U' => ∃ v L, o = .returned v ∧ Q10s2 Z o0 o1 vehicles_o0 link_o0 part_o0 x0 x1 h0 n0 v U'.heap L ∧ FrameEnd s o U' L ({ frames := 1, cells := 0, slots := 0, locals := 18 } : Room).cells ({ frames := 1, cells := 0, slots := 0, locals := 18 } : Room).slots) _
  refine own_cast (ef10s2 m o0 o1) ?_
  refine own_iconst X0 hx hby (v := (0 : Int32)) (by decide) d10_0 (pc' := 1) rfl ?_
  refine own_istoreN X0 hx hby (L' := #[.val (.ref o0), .val (.ref o1), .val (.int (0 : Int32))]) rfl d10_1 (pc' := 2) rfl ?_
  refine own_iloadN X0 hx hby rfl d10_2 (pc' := 3) rfl ?_
  refine own_aloadN X0 hx hby rfl rfl d10_3 (pc' := 4) rfl ?_
  refine own_getF X0 hx hby hZ hown (host := "") (Or.inl (hw _ (List.mem_of_getElem? (i := 100) rfl))) Via.refl eH0 F_o0_size d10_4 (pc' := 7) rfl (fun T1 X1 eH1 => ?_)
  refine own_icF X1 hx hby d10_7 (by decide) (pc' := 10) rfl ?_
  refine own_aloadN X1 hx hby rfl rfl d10_10 (pc' := 11) rfl ?_
  refine own_getF X1 hx hby hZ hown (host := "") (Or.inl (hw _ (List.mem_of_getElem? (i := 85) rfl))) Via.refl eH1 F_o0_vehicles d10_11 (pc' := 14) rfl (fun T2 X2 eH2 => ?_)
  refine own_iloadN X2 hx hby rfl d10_14 (pc' := 15) rfl ?_
  refine own_aaload X2 hx hby hZ eH2 V_vehicles_o0 rfl (by decide) (v := (.ref x0)) rfl d10_15 (pc' := 16) rfl ?_
  refine own_virtual X2 hx hby hZ (y := (⟨"com/example/phlow/phlow/engine/Vehicle", "pos", "()D"⟩ : MethodName)) (y' := (⟨"com/example/phlow/phlow/engine/Vehicle", "pos", "()D"⟩ : MethodName)) (C := "com/example/phlow/phlow/engine/Vehicle") (rest := []) hown (hw _ (List.mem_of_getElem? (i := 112) rfl)) (hw _ (List.mem_of_getElem? (i := 113) rfl)) (notFace_of_selects (args := #[]) (mvT hZ (hw _ (List.mem_of_getElem? (i := 115) rfl)))) (hw _ (List.mem_of_getElem? (i := 115) rfl)) (hw _ (List.mem_of_getElem? (i := 114) rfl)) (hw _ (List.mem_of_getElem? (i := 116) rfl)) (hw _ (List.mem_of_getElem? (i := 34) rfl)) (by decide) (rm11 l Z a0 hw [] x0 (0 : UInt64) h0 n0 Z0 F_x0_pos) eH2 (by rw [hml]; rfl) (a := x0) E_x0 (argsL := []) rfl (lenOf pd_2 rfl) rfl d10_16 (pc' := 19) rfl (by decide) (W := 0) (Nat.le_of_eq rfl) (by decide) (by decide) (by decide) (fun T3 h3 Lc3 v3r X3 eH3 hQ3 => ?_)
  obtain ⟨rfl, Nq3, rfl⟩ := hQ3
  have N3 := Fr.app N0 Nq3
  refine own_aloadN X3 hx hby rfl rfl d10_19 (pc' := 20) rfl ?_
  refine own_virtual X3 hx hby hZ (y := (⟨"com/example/phlow/phlow/engine/Vehicle", "pos", "()D"⟩ : MethodName)) (y' := (⟨"com/example/phlow/phlow/engine/Vehicle", "pos", "()D"⟩ : MethodName)) (C := "com/example/phlow/phlow/engine/Vehicle") (rest := [(.double (0 : UInt64))]) hown (hw _ (List.mem_of_getElem? (i := 112) rfl)) (hw _ (List.mem_of_getElem? (i := 113) rfl)) (notFace_of_selects (args := #[]) (mvT hZ (hw _ (List.mem_of_getElem? (i := 115) rfl)))) (hw _ (List.mem_of_getElem? (i := 115) rfl)) (hw _ (List.mem_of_getElem? (i := 114) rfl)) (hw _ (List.mem_of_getElem? (i := 116) rfl)) (hw _ (List.mem_of_getElem? (i := 34) rfl)) (by decide) (rm11 l Z a0 hw [] o1 (0 : UInt64) h0 n0 Z0 F_o1_pos) eH3 (by rw [hml]; rfl) (a := o1) E_o1 (argsL := []) rfl (lenOf pd_2 rfl) rfl d10_20 (pc' := 23) rfl (by decide) (W := 2) (Nat.le_of_eq rfl) (by decide) (by decide) (by decide) (fun T4 h4 Lc4 v4r X4 eH4 hQ4 => ?_)
  obtain ⟨rfl, Nq4, rfl⟩ := hQ4
  have N4 := Fr.app N3 Nq4
  refine own_dcmp X4 hx hby rfl d10_23 (pc' := 24) rfl ?_
  have hk5 : ¬ (dlt (0 : UInt64) (0 : UInt64)) := by decide +kernel
  refine own_ifT X4 hx hby d10_24 (own_dg_ge_n hk5) (by decide) (pc' := 33) (by decide) ?_
  refine own_aloadN X4 hx hby rfl rfl d10_33 (pc' := 34) rfl ?_
  refine own_getF X4 hx hby hZ hown (host := "") (Or.inl (hw _ (List.mem_of_getElem? (i := 100) rfl))) Via.refl eH4 F_o0_size d10_34 (pc' := 37) rfl (fun T6 X6 eH6 => ?_)
  refine own_aloadN X6 hx hby rfl rfl d10_37 (pc' := 38) rfl ?_
  refine own_getF X6 hx hby hZ hown (host := "") (Or.inl (hw _ (List.mem_of_getElem? (i := 85) rfl))) Via.refl eH6 F_o0_vehicles d10_38 (pc' := 41) rfl (fun T7 X7 eH7 => ?_)
  refine own_alen X7 hx hby hZ eH7 V_vehicles_o0 (z := (4 : Int32)) (by first | rfl | decide) d10_41 (pc' := 42) rfl ?_
  refine own_icT X7 hx hby d10_42 (by decide) (by decide) (pc' := 65) (by decide) ?_
  refine own_aloadN X7 hx hby rfl rfl d10_65 (pc' := 66) rfl ?_
  refine own_getF X7 hx hby hZ hown (host := "") (Or.inl (hw _ (List.mem_of_getElem? (i := 85) rfl))) Via.refl eH7 F_o0_vehicles d10_66 (pc' := 69) rfl (fun T8 X8 eH8 => ?_)
  refine own_iloadN X8 hx hby rfl d10_69 (pc' := 70) rfl ?_
  refine own_aloadN X8 hx hby rfl rfl d10_70 (pc' := 71) rfl ?_
  refine own_getF X8 hx hby hZ hown (host := "") (Or.inl (hw _ (List.mem_of_getElem? (i := 85) rfl))) Via.refl eH8 F_o0_vehicles d10_71 (pc' := 74) rfl (fun T9 X9 eH9 => ?_)
  refine own_iloadN X9 hx hby rfl d10_74 (pc' := 75) rfl ?_
  refine own_iconst X9 hx hby (v := (1 : Int32)) (by decide) d10_75 (pc' := 76) rfl ?_
  refine own_iadd X9 hx hby (v := (1 : Int32)) (by decide) d10_76 (pc' := 77) rfl ?_
  refine own_aloadN X9 hx hby rfl rfl d10_77 (pc' := 78) rfl ?_
  refine own_getF X9 hx hby hZ hown (host := "") (Or.inl (hw _ (List.mem_of_getElem? (i := 100) rfl))) Via.refl eH9 F_o0_size d10_78 (pc' := 81) rfl (fun T10 X10 eH10 => ?_)
  refine own_iloadN X10 hx hby rfl d10_81 (pc' := 82) rfl ?_
  refine own_isub X10 hx hby (v := (2 : Int32)) (by decide) d10_82 (pc' := 83) rfl ?_
  refine own_cpR X10 hx hby hZ hown (hw _ (List.mem_of_getElem? (i := 107) rfl)) (hw _ (List.mem_of_getElem? (i := 110) rfl)) (hw _ (List.mem_of_getElem? (i := 108) rfl)) (hw _ (List.mem_of_getElem? (i := 109) rfl)) eH10 (C := "com/example/phlow/phlow/engine/Vehicle") V_vehicles_o0 (z := 4) (S := 0) (D := 1) (N := 2) (of_decide_eq_true rfl) (by decide) (by decide) (by decide) (by decide) (by decide) (by decide) (by decide) (of_decide_eq_true rfl) (of_decide_eq_true rfl) (us := [(.ref x0), (.ref x1)]) (us' := [(.ref x0), (.ref x0), (.ref x1), .null]) rfl (fun i hi => by rcases i with _ | _ | _ | _ | i <;> first | rfl | exact absurd hi (by simp)) (own_elS E_x0 (own_elS E_x1 own_el0)) rfl rfl N4 g_vehicles_o0 (by rw [hml]; rfl) d10_83 (pc' := 86) rfl (by decide) (W := 0) (Nat.le_of_eq rfl) (by decide) (fun T11 h11 Lc11 X11 eH11 N11 Kq11 V_vehicles_o0 => ?_)
  replace E_o0 := E_o0.keep Kq11
  replace F_o0_vehicles := F_o0_vehicles.keep Kq11 (ninS ne_o0_vehicles_o0 nin0)
  replace F_o0_link := F_o0_link.keep Kq11 (ninS ne_o0_vehicles_o0 nin0)
  replace F_o0_part := F_o0_part.keep Kq11 (ninS ne_o0_vehicles_o0 nin0)
  replace F_o0_size := F_o0_size.keep Kq11 (ninS ne_o0_vehicles_o0 nin0)
  replace E_o1 := E_o1.keep Kq11
  replace F_o1_pos := F_o1_pos.keep Kq11 (ninS ne_o1_vehicles_o0 nin0)
  replace E_x0 := E_x0.keep Kq11
  replace F_x0_pos := F_x0_pos.keep Kq11 (ninS ne_x0_vehicles_o0 nin0)
  replace E_x1 := E_x1.keep Kq11
  replace F_x1_pos := F_x1_pos.keep Kq11 (ninS ne_x1_vehicles_o0 nin0)
  replace K0 := K0.trans Kq11 (allS (Or.inl (by simp)) all0)
  replace Z0 := Nat.le_trans Z0 Kq11.1
  refine own_aloadN X11 hx hby rfl rfl d10_86 (pc' := 87) rfl ?_
  refine own_getF X11 hx hby hZ hown (host := "") (Or.inl (hw _ (List.mem_of_getElem? (i := 85) rfl))) Via.refl eH11 F_o0_vehicles d10_87 (pc' := 90) rfl (fun T12 X12 eH12 => ?_)
  refine own_iloadN X12 hx hby rfl d10_90 (pc' := 91) rfl ?_
  refine own_aloadN X12 hx hby rfl rfl d10_91 (pc' := 92) rfl ?_
  refine own_aastoreO X12 hx hby hZ eH12 V_vehicles_o0 E_o1 (by decide) (n := 0) (by decide) (of_decide_eq_true rfl) d10_92 (pc' := 93) rfl (fun T13 h13 X13 eH13 W13 => ?_)
  replace E_o0 := E_o0.wr W13
  replace F_o0_vehicles := F_o0_vehicles.other W13 (Or.inl ne_o0_vehicles_o0)
  replace F_o0_link := F_o0_link.other W13 (Or.inl ne_o0_vehicles_o0)
  replace F_o0_part := F_o0_part.other W13 (Or.inl ne_o0_vehicles_o0)
  replace F_o0_size := F_o0_size.other W13 (Or.inl ne_o0_vehicles_o0)
  replace E_o1 := E_o1.wr W13
  replace F_o1_pos := F_o1_pos.other W13 (Or.inl ne_o1_vehicles_o0)
  replace E_x0 := E_x0.wr W13
  replace F_x0_pos := F_x0_pos.other W13 (Or.inl ne_x0_vehicles_o0)
  replace E_x1 := E_x1.wr W13
  replace F_x1_pos := F_x1_pos.other W13 (Or.inl ne_x1_vehicles_o0)
  have N13 := Fr.snoc X13 N11 g_vehicles_o0
  replace K0 := K0.wr W13 (Or.inl (by simp))
  replace Z0 := Nat.le_trans Z0 (Nat.le_of_eq W13.size.symm)
  replace V_vehicles_o0 : Ary (ovO Z "com/example/phlow/phlow/engine/Vehicle") Z h13 vehicles_o0 (.object "com/example/phlow/phlow/engine/Vehicle") [(.ref o1), (.ref x0), (.ref x1), .null] := V_vehicles_o0.set W13
  refine own_aloadN X13 hx hby rfl rfl d10_93 (pc' := 94) rfl ?_
  refine own_dup X13 hx hby rfl d10_94 (pc' := 95) rfl ?_
  refine own_getF X13 hx hby hZ hown (host := "") (Or.inl (hw _ (List.mem_of_getElem? (i := 100) rfl))) Via.refl eH13 F_o0_size d10_95 (pc' := 98) rfl (fun T14 X14 eH14 => ?_)
  refine own_iconst X14 hx hby (v := (1 : Int32)) (by decide) d10_98 (pc' := 99) rfl ?_
  refine own_iadd X14 hx hby (v := (3 : Int32)) (by decide) d10_99 (pc' := 100) rfl ?_
  refine own_putF X14 hx hby hZ hown (host := "") (Or.inl (hw _ (List.mem_of_getElem? (i := 100) rfl))) Via.refl eH14 F_o0_size E_o0 (Or.inl (hw _ (List.mem_of_getElem? (i := 101) rfl))) (hw _ (List.mem_of_getElem? (i := 77) rfl)) (ty := .int) (by decide) rfl rfl d10_100 (pc' := 103) rfl (fun T15 h15 X15 eH15 W15 => ?_)
  replace E_o0 := E_o0.wr W15
  replace F_o0_vehicles := F_o0_vehicles.other W15 (Or.inr (slot_ne (Or.inl (hw _ (List.mem_of_getElem? (i := 86) rfl))) (Or.inl (hw _ (List.mem_of_getElem? (i := 101) rfl))) (by decide) (t := (.array (.object "com/example/phlow/phlow/engine/Vehicle"))) (t' := .int) (by decide) (by decide)))
  replace F_o0_link := F_o0_link.other W15 (Or.inr (slot_ne (Or.inr (hw _ (List.mem_of_getElem? (i := 88) rfl))) (Or.inl (hw _ (List.mem_of_getElem? (i := 101) rfl))) (by decide) (t := .int) (t' := .int) (by decide) (by decide)))
  replace F_o0_part := F_o0_part.other W15 (Or.inr (slot_ne (Or.inr (hw _ (List.mem_of_getElem? (i := 90) rfl))) (Or.inl (hw _ (List.mem_of_getElem? (i := 101) rfl))) (by decide) (t := .int) (t' := .int) (by decide) (by decide)))
  replace F_o0_size := F_o0_size.same W15
  replace E_o1 := E_o1.wr W15
  replace F_o1_pos := F_o1_pos.other W15 (Or.inl ne_o1_o0)
  replace V_vehicles_o0 := V_vehicles_o0.other W15 (Ne.symm ne_o0_vehicles_o0)
  replace E_x0 := E_x0.wr W15
  replace F_x0_pos := F_x0_pos.other W15 (Or.inl ne_x0_o0)
  replace E_x1 := E_x1.wr W15
  replace F_x1_pos := F_x1_pos.other W15 (Or.inl ne_x1_o0)
  have N15 := Fr.snoc X15 N13 g_o0
  replace K0 := K0.wr W15 (Or.inl (by simp))
  replace Z0 := Nat.le_trans Z0 (Nat.le_of_eq W15.size.symm)
  refine own_iloadN X15 hx hby rfl d10_103 (pc' := 104) rfl ?_
  exact own_retI X15 hx hby Bd.notSynchronized Bd.returns d10_104 (by decide) (by decide) eH15 ⟨rfl, N15, K0, V_vehicles_o0, E_o0, F_o0_vehicles, F_o0_link, F_o0_part, F_o0_size⟩
theorem ef9s0 (m : MethodId) (x0 : Addr) (x1 : Addr) : entryFrame m #[(.ref x0), (.ref x1)] 4 = mkF m 0 #[.val (.ref x0), .val (.ref x1), .unset, .unset] [] := by first | (simp [entryFrame, mkF, argsToLocals, Value.category]; done) | rfl
def Q9s0 (Z : State) (o0 : Addr) (o1 : Addr) (vehicles_o0 : Addr) (link_o0 : Int32) (part_o0 : Int32) (h0 : Heap) (n0 : Nat) (v : Option Value) (h : Heap) (L : List Loc) : Prop := v = some (.int (-1 : Int32)) ∧ Fr n0 L ∧ h0 = h
set_option maxRecDepth 65536 in
set_option maxHeartbeats 40000000 in
theorem rm9s0 (l : Launch) (Z : State) (a0 : Array Value) (hw : ∀ d ∈ tables_1, d.before a0 Z = true) (ws : List Jvm.Cond) (o0 : Addr) (o1 : Addr) (vehicles_o0 : Addr) (link_o0 : Int32) (part_o0 : Int32) (h0 : Heap) (n0 : Nat) (Z0 : n0 ≤ h0.size) (F_o0_vehicles : Fld Z h0 o0 "com/example/phlow/phlow/engine/Lane" "vehicles" "[Lcom/example/phlow/phlow/engine/Vehicle;" (.ref vehicles_o0)) (F_o0_link : Fld Z h0 o0 "com/example/phlow/phlow/engine/Lane" "link" "I" (.int link_o0)) (F_o0_part : Fld Z h0 o0 "com/example/phlow/phlow/engine/Lane" "part" "I" (.int part_o0)) (F_o0_size : Fld Z h0 o0 "com/example/phlow/phlow/engine/Lane" "size" "I" (.int (0 : Int32))) (V_vehicles_o0 : Ary (ovO Z "com/example/phlow/phlow/engine/Vehicle") Z h0 vehicles_o0 (.object "com/example/phlow/phlow/engine/Vehicle") [.null, .null, .null, .null]) :
    MetFree l (⟨"com/example/phlow/phlow/engine/Lane", "indexOf", "(Lcom/example/phlow/phlow/engine/Vehicle;)I"⟩ : MethodName) (head1 (Jvm.Cond.code (⟨"com/example/phlow/phlow/engine/Lane", "indexOf", "(Lcom/example/phlow/phlow/engine/Vehicle;)I"⟩ : MethodName) prog_11_method_7_code 4 (some .int) :: ws) ({ frames := 0, cells := 0, slots := 0, locals := 0 } : Room)) (fun a U => a = #[(.ref o0), (.ref o1)] ∧ Z.Warmed39 U.vm ∧ U.heap = h0) (fun _ _ _ _ _ => True) (fun _ U o U' => ∃ v L, o = .returned v ∧ Q9s0 Z o0 o1 vehicles_o0 link_o0 part_o0 h0 n0 v U'.heap L ∧ FrameEnd U o U' L ({ frames := 0, cells := 0, slots := 0, locals := 0 } : Room).cells ({ frames := 0, cells := 0, slots := 0, locals := 0 } : Room).slots) := by
  refine MetFree.of_bodySF (plainFor_of_name pn_com_example_phlow_phlow_engine_Lane) hisR ?_
  intro p e s m args below meth c s₁ Bd hml0 hP hK
  obtain ⟨rfl, hZ, hhp⟩ := hP
  have hx := Bd.exec
  have hby := Bd.bytes
  have hml : c.maxLocals = 4 := hml0
  have hown : s.vm.findClass "com/example/phlow/phlow/engine/Lane" = some m.cls := findClass_of_methodNamed Bd.named
  have hnm := (name_of_methodNamed Bd.named Bd.method).1
  have X0 : Stand p l e ({ frames := 0, cells := 0, slots := 0, locals := 0 } : Room) s m #[(.ref o0), (.ref o1)] below meth c s₁ [] 0 0 := Stand.of_body Bd
  have eH0 : s₁.heap = h0 := by rw [← hhp, Bd.state]; rfl
  have N0 := Fr.nil n0
  show Gt p.tables e below (fun o U' => ∃ v L, o = .returned v ∧ Q9s0 Z o0 o1 vehicles_o0 link_o0 part_o0 h0 n0 v U'.heap L ∧ FrameEnd s o U' L ({ frames := 0, cells := 0, slots := 0, locals := 0 } : Room).cells ({ frames := 0, cells := 0, slots := 0, locals := 0 } : Room).slots) _
  refine own_cast (ef9s0 m o0 o1) ?_
  refine own_iconst X0 hx hby (v := (-1 : Int32)) (by decide) d9_0 (pc' := 1) rfl ?_
  refine own_istoreN X0 hx hby (L' := #[.val (.ref o0), .val (.ref o1), .val (.int (-1 : Int32)), .unset]) rfl d9_1 (pc' := 2) rfl ?_
  refine own_iconst X0 hx hby (v := (0 : Int32)) (by decide) d9_2 (pc' := 3) rfl ?_
  refine own_istoreN X0 hx hby (L' := #[.val (.ref o0), .val (.ref o1), .val (.int (-1 : Int32)), .val (.int (0 : Int32))]) rfl d9_3 (pc' := 4) rfl ?_
  refine own_iloadN X0 hx hby rfl d9_4 (pc' := 5) rfl ?_
  refine own_ifF X0 hx hby d9_5 (by decide) (pc' := 8) rfl ?_
  refine own_iloadN X0 hx hby rfl d9_8 (pc' := 9) rfl ?_
  refine own_aloadN X0 hx hby rfl rfl d9_9 (pc' := 10) rfl ?_
  refine own_getF X0 hx hby hZ hown (host := "") (Or.inl (hw _ (List.mem_of_getElem? (i := 100) rfl))) Via.refl eH0 F_o0_size d9_10 (pc' := 13) rfl (fun T1 X1 eH1 => ?_)
  refine own_icT X1 hx hby d9_13 (by decide) (by decide) (pc' := 34) (by decide) ?_
  refine own_iloadN X1 hx hby rfl d9_34 (pc' := 35) rfl ?_
  exact own_retI X1 hx hby Bd.notSynchronized Bd.returns d9_35 (by decide) (by decide) eH1 ⟨rfl, N0, rfl⟩
theorem ef9n0 (m : MethodId) (x0 : Addr) : entryFrame m #[(.ref x0), .null] 4 = mkF m 0 #[.val (.ref x0), .val .null, .unset, .unset] [] := by first | (simp [entryFrame, mkF, argsToLocals, Value.category]; done) | rfl
def Q9n0 (Z : State) (o0 : Addr) (vehicles_o0 : Addr) (link_o0 : Int32) (part_o0 : Int32) (h0 : Heap) (n0 : Nat) (v : Option Value) (h : Heap) (L : List Loc) : Prop := v = some (.int (-1 : Int32)) ∧ Fr n0 L ∧ h0 = h
set_option maxRecDepth 65536 in
set_option maxHeartbeats 40000000 in
theorem rm9n0 (l : Launch) (Z : State) (a0 : Array Value) (hw : ∀ d ∈ tables_1, d.before a0 Z = true) (ws : List Jvm.Cond) (o0 : Addr) (vehicles_o0 : Addr) (link_o0 : Int32) (part_o0 : Int32) (h0 : Heap) (n0 : Nat) (Z0 : n0 ≤ h0.size) (F_o0_vehicles : Fld Z h0 o0 "com/example/phlow/phlow/engine/Lane" "vehicles" "[Lcom/example/phlow/phlow/engine/Vehicle;" (.ref vehicles_o0)) (F_o0_link : Fld Z h0 o0 "com/example/phlow/phlow/engine/Lane" "link" "I" (.int link_o0)) (F_o0_part : Fld Z h0 o0 "com/example/phlow/phlow/engine/Lane" "part" "I" (.int part_o0)) (F_o0_size : Fld Z h0 o0 "com/example/phlow/phlow/engine/Lane" "size" "I" (.int (0 : Int32))) (V_vehicles_o0 : Ary (ovO Z "com/example/phlow/phlow/engine/Vehicle") Z h0 vehicles_o0 (.object "com/example/phlow/phlow/engine/Vehicle") [.null, .null, .null, .null]) :
    MetFree l (⟨"com/example/phlow/phlow/engine/Lane", "indexOf", "(Lcom/example/phlow/phlow/engine/Vehicle;)I"⟩ : MethodName) (head1 (Jvm.Cond.code (⟨"com/example/phlow/phlow/engine/Lane", "indexOf", "(Lcom/example/phlow/phlow/engine/Vehicle;)I"⟩ : MethodName) prog_11_method_7_code 4 (some .int) :: ws) ({ frames := 0, cells := 0, slots := 0, locals := 0 } : Room)) (fun a U => a = #[(.ref o0), .null] ∧ Z.Warmed39 U.vm ∧ U.heap = h0) (fun _ _ _ _ _ => True) (fun _ U o U' => ∃ v L, o = .returned v ∧ Q9n0 Z o0 vehicles_o0 link_o0 part_o0 h0 n0 v U'.heap L ∧ FrameEnd U o U' L ({ frames := 0, cells := 0, slots := 0, locals := 0 } : Room).cells ({ frames := 0, cells := 0, slots := 0, locals := 0 } : Room).slots) := by
  refine MetFree.of_bodySF (plainFor_of_name pn_com_example_phlow_phlow_engine_Lane) hisR ?_
  intro p e s m args below meth c s₁ Bd hml0 hP hK
  obtain ⟨rfl, hZ, hhp⟩ := hP
  have hx := Bd.exec
  have hby := Bd.bytes
  have hml : c.maxLocals = 4 := hml0
  have hown : s.vm.findClass "com/example/phlow/phlow/engine/Lane" = some m.cls := findClass_of_methodNamed Bd.named
  have hnm := (name_of_methodNamed Bd.named Bd.method).1
  have X0 : Stand p l e ({ frames := 0, cells := 0, slots := 0, locals := 0 } : Room) s m #[(.ref o0), .null] below meth c s₁ [] 0 0 := Stand.of_body Bd
  have eH0 : s₁.heap = h0 := by rw [← hhp, Bd.state]; rfl
  have N0 := Fr.nil n0
  show Gt p.tables e below (fun o U' => ∃ v L, o = .returned v ∧ Q9n0 Z o0 vehicles_o0 link_o0 part_o0 h0 n0 v U'.heap L ∧ FrameEnd s o U' L ({ frames := 0, cells := 0, slots := 0, locals := 0 } : Room).cells ({ frames := 0, cells := 0, slots := 0, locals := 0 } : Room).slots) _
  refine own_cast (ef9n0 m o0) ?_
  refine own_iconst X0 hx hby (v := (-1 : Int32)) (by decide) d9_0 (pc' := 1) rfl ?_
  refine own_istoreN X0 hx hby (L' := #[.val (.ref o0), .val .null, .val (.int (-1 : Int32)), .unset]) rfl d9_1 (pc' := 2) rfl ?_
  refine own_iconst X0 hx hby (v := (0 : Int32)) (by decide) d9_2 (pc' := 3) rfl ?_
  refine own_istoreN X0 hx hby (L' := #[.val (.ref o0), .val .null, .val (.int (-1 : Int32)), .val (.int (0 : Int32))]) rfl d9_3 (pc' := 4) rfl ?_
  refine own_iloadN X0 hx hby rfl d9_4 (pc' := 5) rfl ?_
  refine own_ifF X0 hx hby d9_5 (by decide) (pc' := 8) rfl ?_
  refine own_iloadN X0 hx hby rfl d9_8 (pc' := 9) rfl ?_
  refine own_aloadN X0 hx hby rfl rfl d9_9 (pc' := 10) rfl ?_
  refine own_getF X0 hx hby hZ hown (host := "") (Or.inl (hw _ (List.mem_of_getElem? (i := 100) rfl))) Via.refl eH0 F_o0_size d9_10 (pc' := 13) rfl (fun T1 X1 eH1 => ?_)
  refine own_icT X1 hx hby d9_13 (by decide) (by decide) (pc' := 34) (by decide) ?_
  refine own_iloadN X1 hx hby rfl d9_34 (pc' := 35) rfl ?_
  exact own_retI X1 hx hby Bd.notSynchronized Bd.returns d9_35 (by decide) (by decide) eH1 ⟨rfl, N0, rfl⟩
theorem ef9s1 (m : MethodId) (x0 : Addr) (x1 : Addr) : entryFrame m #[(.ref x0), (.ref x1)] 4 = mkF m 0 #[.val (.ref x0), .val (.ref x1), .unset, .unset] [] := by first | (simp [entryFrame, mkF, argsToLocals, Value.category]; done) | rfl
def Q9s1 (Z : State) (o0 : Addr) (o1 : Addr) (vehicles_o0 : Addr) (link_o0 : Int32) (part_o0 : Int32) (x0 : Addr) (h0 : Heap) (n0 : Nat) (v : Option Value) (h : Heap) (L : List Loc) : Prop := v = some (.int (if x0 = o1 then (0 : Int32) else (-1 : Int32))) ∧ Fr n0 L ∧ h0 = h
set_option maxRecDepth 65536 in
set_option maxHeartbeats 40000000 in
theorem rm9s1 (l : Launch) (Z : State) (a0 : Array Value) (hw : ∀ d ∈ tables_1, d.before a0 Z = true) (ws : List Jvm.Cond) (o0 : Addr) (o1 : Addr) (vehicles_o0 : Addr) (link_o0 : Int32) (part_o0 : Int32) (x0 : Addr) (h0 : Heap) (n0 : Nat) (Z0 : n0 ≤ h0.size) (F_o0_vehicles : Fld Z h0 o0 "com/example/phlow/phlow/engine/Lane" "vehicles" "[Lcom/example/phlow/phlow/engine/Vehicle;" (.ref vehicles_o0)) (F_o0_link : Fld Z h0 o0 "com/example/phlow/phlow/engine/Lane" "link" "I" (.int link_o0)) (F_o0_part : Fld Z h0 o0 "com/example/phlow/phlow/engine/Lane" "part" "I" (.int part_o0)) (F_o0_size : Fld Z h0 o0 "com/example/phlow/phlow/engine/Lane" "size" "I" (.int (1 : Int32))) (V_vehicles_o0 : Ary (ovO Z "com/example/phlow/phlow/engine/Vehicle") Z h0 vehicles_o0 (.object "com/example/phlow/phlow/engine/Vehicle") [(.ref x0), .null, .null, .null]) :
    MetFree l (⟨"com/example/phlow/phlow/engine/Lane", "indexOf", "(Lcom/example/phlow/phlow/engine/Vehicle;)I"⟩ : MethodName) (head1 (Jvm.Cond.code (⟨"com/example/phlow/phlow/engine/Lane", "indexOf", "(Lcom/example/phlow/phlow/engine/Vehicle;)I"⟩ : MethodName) prog_11_method_7_code 4 (some .int) :: ws) ({ frames := 0, cells := 0, slots := 0, locals := 0 } : Room)) (fun a U => a = #[(.ref o0), (.ref o1)] ∧ Z.Warmed39 U.vm ∧ U.heap = h0) (fun _ _ _ _ _ => True) (fun _ U o U' => ∃ v L, o = .returned v ∧ Q9s1 Z o0 o1 vehicles_o0 link_o0 part_o0 x0 h0 n0 v U'.heap L ∧ FrameEnd U o U' L ({ frames := 0, cells := 0, slots := 0, locals := 0 } : Room).cells ({ frames := 0, cells := 0, slots := 0, locals := 0 } : Room).slots) := by
  refine MetFree.of_bodySF (plainFor_of_name pn_com_example_phlow_phlow_engine_Lane) hisR ?_
  intro p e s m args below meth c s₁ Bd hml0 hP hK
  obtain ⟨rfl, hZ, hhp⟩ := hP
  have hx := Bd.exec
  have hby := Bd.bytes
  have hml : c.maxLocals = 4 := hml0
  have hown : s.vm.findClass "com/example/phlow/phlow/engine/Lane" = some m.cls := findClass_of_methodNamed Bd.named
  have hnm := (name_of_methodNamed Bd.named Bd.method).1
  have X0 : Stand p l e ({ frames := 0, cells := 0, slots := 0, locals := 0 } : Room) s m #[(.ref o0), (.ref o1)] below meth c s₁ [] 0 0 := Stand.of_body Bd
  have eH0 : s₁.heap = h0 := by rw [← hhp, Bd.state]; rfl
  have N0 := Fr.nil n0
  show Gt p.tables e below (fun o U' => ∃ v L, o = .returned v ∧ Q9s1 Z o0 o1 vehicles_o0 link_o0 part_o0 x0 h0 n0 v U'.heap L ∧ FrameEnd s o U' L ({ frames := 0, cells := 0, slots := 0, locals := 0 } : Room).cells ({ frames := 0, cells := 0, slots := 0, locals := 0 } : Room).slots) _
  refine own_cast (ef9s1 m o0 o1) ?_
  refine own_iconst X0 hx hby (v := (-1 : Int32)) (by decide) d9_0 (pc' := 1) rfl ?_
  refine own_istoreN X0 hx hby (L' := #[.val (.ref o0), .val (.ref o1), .val (.int (-1 : Int32)), .unset]) rfl d9_1 (pc' := 2) rfl ?_
  refine own_iconst X0 hx hby (v := (0 : Int32)) (by decide) d9_2 (pc' := 3) rfl ?_
  refine own_istoreN X0 hx hby (L' := #[.val (.ref o0), .val (.ref o1), .val (.int (-1 : Int32)), .val (.int (0 : Int32))]) rfl d9_3 (pc' := 4) rfl ?_
  refine own_iloadN X0 hx hby rfl d9_4 (pc' := 5) rfl ?_
  refine own_ifF X0 hx hby d9_5 (by decide) (pc' := 8) rfl ?_
  refine own_iloadN X0 hx hby rfl d9_8 (pc' := 9) rfl ?_
  refine own_aloadN X0 hx hby rfl rfl d9_9 (pc' := 10) rfl ?_
  refine own_getF X0 hx hby hZ hown (host := "") (Or.inl (hw _ (List.mem_of_getElem? (i := 100) rfl))) Via.refl eH0 F_o0_size d9_10 (pc' := 13) rfl (fun T1 X1 eH1 => ?_)
  refine own_icF X1 hx hby d9_13 (by decide) (pc' := 16) rfl ?_
  refine own_aloadN X1 hx hby rfl rfl d9_16 (pc' := 17) rfl ?_
  refine own_getF X1 hx hby hZ hown (host := "") (Or.inl (hw _ (List.mem_of_getElem? (i := 85) rfl))) Via.refl eH1 F_o0_vehicles d9_17 (pc' := 20) rfl (fun T2 X2 eH2 => ?_)
  refine own_iloadN X2 hx hby rfl d9_20 (pc' := 21) rfl ?_
  refine own_aaload X2 hx hby hZ eH2 V_vehicles_o0 rfl (by decide) (v := (.ref x0)) rfl d9_21 (pc' := 22) rfl ?_
  refine own_aloadN X2 hx hby rfl rfl d9_22 (pc' := 23) rfl ?_
  by_cases hc3 : x0 = o1
  · refine own_acmp X2 hx hby rfl rfl (same := true) d9_23 (decide_eq_true (congrArg Value.ref hc3)) (by decide) (pc' := 26) (by decide) ?_
    refine own_iloadN X2 hx hby rfl d9_26 (pc' := 27) rfl ?_
    refine own_istoreN X2 hx hby (L' := #[.val (.ref o0), .val (.ref o1), .val (.int (0 : Int32)), .val (.int (0 : Int32))]) rfl d9_27 (pc' := 28) rfl ?_
    refine own_iinc X2 hx hby rfl (L' := #[.val (.ref o0), .val (.ref o1), .val (.int (0 : Int32)), .val (.int (1 : Int32))]) rfl d9_28 (pc' := 31) rfl ?_
    refine own_goto X2 hx hby d9_31 (by decide) (pc' := 4) (by decide) ?_
    refine own_iloadN X2 hx hby rfl d9_4 (pc' := 5) rfl ?_
    refine own_ifT X2 hx hby d9_5 (by decide) (by decide) (pc' := 34) (by decide) ?_
    refine own_iloadN X2 hx hby rfl d9_34 (pc' := 35) rfl ?_
    exact own_retI X2 hx hby Bd.notSynchronized Bd.returns d9_35 (by decide) (by decide) eH2 ⟨(by rw [if_pos hc3]), N0, rfl⟩
  · refine own_acmp X2 hx hby rfl rfl (same := false) d9_23 (decide_eq_false fun q => hc3 (Value.ref.inj q)) (by decide) (pc' := 28) (by decide) ?_
    refine own_iinc X2 hx hby rfl (L' := #[.val (.ref o0), .val (.ref o1), .val (.int (-1 : Int32)), .val (.int (1 : Int32))]) rfl d9_28 (pc' := 31) rfl ?_
    refine own_goto X2 hx hby d9_31 (by decide) (pc' := 4) (by decide) ?_
    refine own_iloadN X2 hx hby rfl d9_4 (pc' := 5) rfl ?_
    refine own_ifF X2 hx hby d9_5 (by decide) (pc' := 8) rfl ?_
    refine own_iloadN X2 hx hby rfl d9_8 (pc' := 9) rfl ?_
    refine own_aloadN X2 hx hby rfl rfl d9_9 (pc' := 10) rfl ?_
    refine own_getF X2 hx hby hZ hown (host := "") (Or.inl (hw _ (List.mem_of_getElem? (i := 100) rfl))) Via.refl eH2 F_o0_size d9_10 (pc' := 13) rfl (fun T4 X4 eH4 => ?_)
    refine own_icT X4 hx hby d9_13 (by decide) (by decide) (pc' := 34) (by decide) ?_
    refine own_iloadN X4 hx hby rfl d9_34 (pc' := 35) rfl ?_
    exact own_retI X4 hx hby Bd.notSynchronized Bd.returns d9_35 (by decide) (by decide) eH4 ⟨(by rw [if_neg hc3]), N0, rfl⟩
theorem ef9n1 (m : MethodId) (x0 : Addr) : entryFrame m #[(.ref x0), .null] 4 = mkF m 0 #[.val (.ref x0), .val .null, .unset, .unset] [] := by first | (simp [entryFrame, mkF, argsToLocals, Value.category]; done) | rfl
def Q9n1 (Z : State) (o0 : Addr) (vehicles_o0 : Addr) (link_o0 : Int32) (part_o0 : Int32) (x0 : Addr) (h0 : Heap) (n0 : Nat) (v : Option Value) (h : Heap) (L : List Loc) : Prop := v = some (.int (-1 : Int32)) ∧ Fr n0 L ∧ h0 = h
set_option maxRecDepth 65536 in
set_option maxHeartbeats 40000000 in
theorem rm9n1 (l : Launch) (Z : State) (a0 : Array Value) (hw : ∀ d ∈ tables_1, d.before a0 Z = true) (ws : List Jvm.Cond) (o0 : Addr) (vehicles_o0 : Addr) (link_o0 : Int32) (part_o0 : Int32) (x0 : Addr) (h0 : Heap) (n0 : Nat) (Z0 : n0 ≤ h0.size) (F_o0_vehicles : Fld Z h0 o0 "com/example/phlow/phlow/engine/Lane" "vehicles" "[Lcom/example/phlow/phlow/engine/Vehicle;" (.ref vehicles_o0)) (F_o0_link : Fld Z h0 o0 "com/example/phlow/phlow/engine/Lane" "link" "I" (.int link_o0)) (F_o0_part : Fld Z h0 o0 "com/example/phlow/phlow/engine/Lane" "part" "I" (.int part_o0)) (F_o0_size : Fld Z h0 o0 "com/example/phlow/phlow/engine/Lane" "size" "I" (.int (1 : Int32))) (V_vehicles_o0 : Ary (ovO Z "com/example/phlow/phlow/engine/Vehicle") Z h0 vehicles_o0 (.object "com/example/phlow/phlow/engine/Vehicle") [(.ref x0), .null, .null, .null]) :
    MetFree l (⟨"com/example/phlow/phlow/engine/Lane", "indexOf", "(Lcom/example/phlow/phlow/engine/Vehicle;)I"⟩ : MethodName) (head1 (Jvm.Cond.code (⟨"com/example/phlow/phlow/engine/Lane", "indexOf", "(Lcom/example/phlow/phlow/engine/Vehicle;)I"⟩ : MethodName) prog_11_method_7_code 4 (some .int) :: ws) ({ frames := 0, cells := 0, slots := 0, locals := 0 } : Room)) (fun a U => a = #[(.ref o0), .null] ∧ Z.Warmed39 U.vm ∧ U.heap = h0) (fun _ _ _ _ _ => True) (fun _ U o U' => ∃ v L, o = .returned v ∧ Q9n1 Z o0 vehicles_o0 link_o0 part_o0 x0 h0 n0 v U'.heap L ∧ FrameEnd U o U' L ({ frames := 0, cells := 0, slots := 0, locals := 0 } : Room).cells ({ frames := 0, cells := 0, slots := 0, locals := 0 } : Room).slots) := by
  refine MetFree.of_bodySF (plainFor_of_name pn_com_example_phlow_phlow_engine_Lane) hisR ?_
  intro p e s m args below meth c s₁ Bd hml0 hP hK
  obtain ⟨rfl, hZ, hhp⟩ := hP
  have hx := Bd.exec
  have hby := Bd.bytes
  have hml : c.maxLocals = 4 := hml0
  have hown : s.vm.findClass "com/example/phlow/phlow/engine/Lane" = some m.cls := findClass_of_methodNamed Bd.named
  have hnm := (name_of_methodNamed Bd.named Bd.method).1
  have X0 : Stand p l e ({ frames := 0, cells := 0, slots := 0, locals := 0 } : Room) s m #[(.ref o0), .null] below meth c s₁ [] 0 0 := Stand.of_body Bd
  have eH0 : s₁.heap = h0 := by rw [← hhp, Bd.state]; rfl
  have N0 := Fr.nil n0
  show Gt p.tables e below (fun o U' => ∃ v L, o = .returned v ∧ Q9n1 Z o0 vehicles_o0 link_o0 part_o0 x0 h0 n0 v U'.heap L ∧ FrameEnd s o U' L ({ frames := 0, cells := 0, slots := 0, locals := 0 } : Room).cells ({ frames := 0, cells := 0, slots := 0, locals := 0 } : Room).slots) _
  refine own_cast (ef9n1 m o0) ?_
  refine own_iconst X0 hx hby (v := (-1 : Int32)) (by decide) d9_0 (pc' := 1) rfl ?_
  refine own_istoreN X0 hx hby (L' := #[.val (.ref o0), .val .null, .val (.int (-1 : Int32)), .unset]) rfl d9_1 (pc' := 2) rfl ?_
  refine own_iconst X0 hx hby (v := (0 : Int32)) (by decide) d9_2 (pc' := 3) rfl ?_
  refine own_istoreN X0 hx hby (L' := #[.val (.ref o0), .val .null, .val (.int (-1 : Int32)), .val (.int (0 : Int32))]) rfl d9_3 (pc' := 4) rfl ?_
  refine own_iloadN X0 hx hby rfl d9_4 (pc' := 5) rfl ?_
  refine own_ifF X0 hx hby d9_5 (by decide) (pc' := 8) rfl ?_
  refine own_iloadN X0 hx hby rfl d9_8 (pc' := 9) rfl ?_
  refine own_aloadN X0 hx hby rfl rfl d9_9 (pc' := 10) rfl ?_
  refine own_getF X0 hx hby hZ hown (host := "") (Or.inl (hw _ (List.mem_of_getElem? (i := 100) rfl))) Via.refl eH0 F_o0_size d9_10 (pc' := 13) rfl (fun T1 X1 eH1 => ?_)
  refine own_icF X1 hx hby d9_13 (by decide) (pc' := 16) rfl ?_
  refine own_aloadN X1 hx hby rfl rfl d9_16 (pc' := 17) rfl ?_
  refine own_getF X1 hx hby hZ hown (host := "") (Or.inl (hw _ (List.mem_of_getElem? (i := 85) rfl))) Via.refl eH1 F_o0_vehicles d9_17 (pc' := 20) rfl (fun T2 X2 eH2 => ?_)
  refine own_iloadN X2 hx hby rfl d9_20 (pc' := 21) rfl ?_
  refine own_aaload X2 hx hby hZ eH2 V_vehicles_o0 rfl (by decide) (v := (.ref x0)) rfl d9_21 (pc' := 22) rfl ?_
  refine own_aloadN X2 hx hby rfl rfl d9_22 (pc' := 23) rfl ?_
  refine own_acmp X2 hx hby rfl rfl (same := false) d9_23 (decide_eq_false nofun) (by decide) (pc' := 28) (by decide) ?_
  refine own_iinc X2 hx hby rfl (L' := #[.val (.ref o0), .val .null, .val (.int (-1 : Int32)), .val (.int (1 : Int32))]) rfl d9_28 (pc' := 31) rfl ?_
  refine own_goto X2 hx hby d9_31 (by decide) (pc' := 4) (by decide) ?_
  refine own_iloadN X2 hx hby rfl d9_4 (pc' := 5) rfl ?_
  refine own_ifF X2 hx hby d9_5 (by decide) (pc' := 8) rfl ?_
  refine own_iloadN X2 hx hby rfl d9_8 (pc' := 9) rfl ?_
  refine own_aloadN X2 hx hby rfl rfl d9_9 (pc' := 10) rfl ?_
  refine own_getF X2 hx hby hZ hown (host := "") (Or.inl (hw _ (List.mem_of_getElem? (i := 100) rfl))) Via.refl eH2 F_o0_size d9_10 (pc' := 13) rfl (fun T3 X3 eH3 => ?_)
  refine own_icT X3 hx hby d9_13 (by decide) (by decide) (pc' := 34) (by decide) ?_
  refine own_iloadN X3 hx hby rfl d9_34 (pc' := 35) rfl ?_
  exact own_retI X3 hx hby Bd.notSynchronized Bd.returns d9_35 (by decide) (by decide) eH3 ⟨rfl, N0, rfl⟩
theorem ef9s2 (m : MethodId) (x0 : Addr) (x1 : Addr) : entryFrame m #[(.ref x0), (.ref x1)] 4 = mkF m 0 #[.val (.ref x0), .val (.ref x1), .unset, .unset] [] := by first | (simp [entryFrame, mkF, argsToLocals, Value.category]; done) | rfl
def Q9s2 (Z : State) (o0 : Addr) (o1 : Addr) (vehicles_o0 : Addr) (link_o0 : Int32) (part_o0 : Int32) (x0 : Addr) (x1 : Addr) (h0 : Heap) (n0 : Nat) (v : Option Value) (h : Heap) (L : List Loc) : Prop := v = some (.int (if x0 = o1 then (0 : Int32) else (if x1 = o1 then (1 : Int32) else (-1 : Int32)))) ∧ Fr n0 L ∧ h0 = h
set_option maxRecDepth 65536 in
set_option maxHeartbeats 40000000 in
theorem rm9s2 (l : Launch) (Z : State) (a0 : Array Value) (hw : ∀ d ∈ tables_1, d.before a0 Z = true) (ws : List Jvm.Cond) (o0 : Addr) (o1 : Addr) (vehicles_o0 : Addr) (link_o0 : Int32) (part_o0 : Int32) (x0 : Addr) (x1 : Addr) (h0 : Heap) (n0 : Nat) (Z0 : n0 ≤ h0.size) (F_o0_vehicles : Fld Z h0 o0 "com/example/phlow/phlow/engine/Lane" "vehicles" "[Lcom/example/phlow/phlow/engine/Vehicle;" (.ref vehicles_o0)) (F_o0_link : Fld Z h0 o0 "com/example/phlow/phlow/engine/Lane" "link" "I" (.int link_o0)) (F_o0_part : Fld Z h0 o0 "com/example/phlow/phlow/engine/Lane" "part" "I" (.int part_o0)) (F_o0_size : Fld Z h0 o0 "com/example/phlow/phlow/engine/Lane" "size" "I" (.int (2 : Int32))) (V_vehicles_o0 : Ary (ovO Z "com/example/phlow/phlow/engine/Vehicle") Z h0 vehicles_o0 (.object "com/example/phlow/phlow/engine/Vehicle") [(.ref x0), (.ref x1), .null, .null]) :
    MetFree l (⟨"com/example/phlow/phlow/engine/Lane", "indexOf", "(Lcom/example/phlow/phlow/engine/Vehicle;)I"⟩ : MethodName) (head1 (Jvm.Cond.code (⟨"com/example/phlow/phlow/engine/Lane", "indexOf", "(Lcom/example/phlow/phlow/engine/Vehicle;)I"⟩ : MethodName) prog_11_method_7_code 4 (some .int) :: ws) ({ frames := 0, cells := 0, slots := 0, locals := 0 } : Room)) (fun a U => a = #[(.ref o0), (.ref o1)] ∧ Z.Warmed39 U.vm ∧ U.heap = h0) (fun _ _ _ _ _ => True) (fun _ U o U' => ∃ v L, o = .returned v ∧ Q9s2 Z o0 o1 vehicles_o0 link_o0 part_o0 x0 x1 h0 n0 v U'.heap L ∧ FrameEnd U o U' L ({ frames := 0, cells := 0, slots := 0, locals := 0 } : Room).cells ({ frames := 0, cells := 0, slots := 0, locals := 0 } : Room).slots) := by
  refine MetFree.of_bodySF (plainFor_of_name pn_com_example_phlow_phlow_engine_Lane) hisR ?_
  intro p e s m args below meth c s₁ Bd hml0 hP hK
  obtain ⟨rfl, hZ, hhp⟩ := hP
  have hx := Bd.exec
  have hby := Bd.bytes
  have hml : c.maxLocals = 4 := hml0
  have hown : s.vm.findClass "com/example/phlow/phlow/engine/Lane" = some m.cls := findClass_of_methodNamed Bd.named
  have hnm := (name_of_methodNamed Bd.named Bd.method).1
  have X0 : Stand p l e ({ frames := 0, cells := 0, slots := 0, locals := 0 } : Room) s m #[(.ref o0), (.ref o1)] below meth c s₁ [] 0 0 := Stand.of_body Bd
  have eH0 : s₁.heap = h0 := by rw [← hhp, Bd.state]; rfl
  have N0 := Fr.nil n0
  show Gt p.tables e below (fun o U' => ∃ v L, o = .returned v ∧ Q9s2 Z o0 o1 vehicles_o0 link_o0 part_o0 x0 x1 h0 n0 v U'.heap L ∧ FrameEnd s o U' L ({ frames := 0, cells := 0, slots := 0, locals := 0 } : Room).cells ({ frames := 0, cells := 0, slots := 0, locals := 0 } : Room).slots) _
  refine own_cast (ef9s2 m o0 o1) ?_
  refine own_iconst X0 hx hby (v := (-1 : Int32)) (by decide) d9_0 (pc' := 1) rfl ?_
  refine own_istoreN X0 hx hby (L' := #[.val (.ref o0), .val (.ref o1), .val (.int (-1 : Int32)), .unset]) rfl d9_1 (pc' := 2) rfl ?_
  refine own_iconst X0 hx hby (v := (0 : Int32)) (by decide) d9_2 (pc' := 3) rfl ?_
  refine own_istoreN X0 hx hby (L' := #[.val (.ref o0), .val (.ref o1), .val (.int (-1 : Int32)), .val (.int (0 : Int32))]) rfl d9_3 (pc' := 4) rfl ?_
  refine own_iloadN X0 hx hby rfl d9_4 (pc' := 5) rfl ?_
  refine own_ifF X0 hx hby d9_5 (by decide) (pc' := 8) rfl ?_
  refine own_iloadN X0 hx hby rfl d9_8 (pc' := 9) rfl ?_
  refine own_aloadN X0 hx hby rfl rfl d9_9 (pc' := 10) rfl ?_
  refine own_getF X0 hx hby hZ hown (host := "") (Or.inl (hw _ (List.mem_of_getElem? (i := 100) rfl))) Via.refl eH0 F_o0_size d9_10 (pc' := 13) rfl (fun T1 X1 eH1 => ?_)
  refine own_icF X1 hx hby d9_13 (by decide) (pc' := 16) rfl ?_
  refine own_aloadN X1 hx hby rfl rfl d9_16 (pc' := 17) rfl ?_
  refine own_getF X1 hx hby hZ hown (host := "") (Or.inl (hw _ (List.mem_of_getElem? (i := 85) rfl))) Via.refl eH1 F_o0_vehicles d9_17 (pc' := 20) rfl (fun T2 X2 eH2 => ?_)
  refine own_iloadN X2 hx hby rfl d9_20 (pc' := 21) rfl ?_
  refine own_aaload X2 hx hby hZ eH2 V_vehicles_o0 rfl (by decide) (v := (.ref x0)) rfl d9_21 (pc' := 22) rfl ?_
  refine own_aloadN X2 hx hby rfl rfl d9_22 (pc' := 23) rfl ?_
  by_cases hc3 : x0 = o1
  · refine own_acmp X2 hx hby rfl rfl (same := true) d9_23 (decide_eq_true (congrArg Value.ref hc3)) (by decide) (pc' := 26) (by decide) ?_
    refine own_iloadN X2 hx hby rfl d9_26 (pc' := 27) rfl ?_
    refine own_istoreN X2 hx hby (L' := #[.val (.ref o0), .val (.ref o1), .val (.int (0 : Int32)), .val (.int (0 : Int32))]) rfl d9_27 (pc' := 28) rfl ?_
    refine own_iinc X2 hx hby rfl (L' := #[.val (.ref o0), .val (.ref o1), .val (.int (0 : Int32)), .val (.int (1 : Int32))]) rfl d9_28 (pc' := 31) rfl ?_
    refine own_goto X2 hx hby d9_31 (by decide) (pc' := 4) (by decide) ?_
    refine own_iloadN X2 hx hby rfl d9_4 (pc' := 5) rfl ?_
    refine own_ifT X2 hx hby d9_5 (by decide) (by decide) (pc' := 34) (by decide) ?_
    refine own_iloadN X2 hx hby rfl d9_34 (pc' := 35) rfl ?_
    exact own_retI X2 hx hby Bd.notSynchronized Bd.returns d9_35 (by decide) (by decide) eH2 ⟨(by rw [if_pos hc3]), N0, rfl⟩
  · refine own_acmp X2 hx hby rfl rfl (same := false) d9_23 (decide_eq_false fun q => hc3 (Value.ref.inj q)) (by decide) (pc' := 28) (by decide) ?_
    refine own_iinc X2 hx hby rfl (L' := #[.val (.ref o0), .val (.ref o1), .val (.int (-1 : Int32)), .val (.int (1 : Int32))]) rfl d9_28 (pc' := 31) rfl ?_
    refine own_goto X2 hx hby d9_31 (by decide) (pc' := 4) (by decide) ?_
    refine own_iloadN X2 hx hby rfl d9_4 (pc' := 5) rfl ?_
    refine own_ifF X2 hx hby d9_5 (by decide) (pc' := 8) rfl ?_
    refine own_iloadN X2 hx hby rfl d9_8 (pc' := 9) rfl ?_
    refine own_aloadN X2 hx hby rfl rfl d9_9 (pc' := 10) rfl ?_
    refine own_getF X2 hx hby hZ hown (host := "") (Or.inl (hw _ (List.mem_of_getElem? (i := 100) rfl))) Via.refl eH2 F_o0_size d9_10 (pc' := 13) rfl (fun T4 X4 eH4 => ?_)
    refine own_icF X4 hx hby d9_13 (by decide) (pc' := 16) rfl ?_
    refine own_aloadN X4 hx hby rfl rfl d9_16 (pc' := 17) rfl ?_
    refine own_getF X4 hx hby hZ hown (host := "") (Or.inl (hw _ (List.mem_of_getElem? (i := 85) rfl))) Via.refl eH4 F_o0_vehicles d9_17 (pc' := 20) rfl (fun T5 X5 eH5 => ?_)
    refine own_iloadN X5 hx hby rfl d9_20 (pc' := 21) rfl ?_
    refine own_aaload X5 hx hby hZ eH5 V_vehicles_o0 rfl (by decide) (v := (.ref x1)) rfl d9_21 (pc' := 22) rfl ?_
    refine own_aloadN X5 hx hby rfl rfl d9_22 (pc' := 23) rfl ?_
    by_cases hc6 : x1 = o1
    · refine own_acmp X5 hx hby rfl rfl (same := true) d9_23 (decide_eq_true (congrArg Value.ref hc6)) (by decide) (pc' := 26) (by decide) ?_
      refine own_iloadN X5 hx hby rfl d9_26 (pc' := 27) rfl ?_
      refine own_istoreN X5 hx hby (L' := #[.val (.ref o0), .val (.ref o1), .val (.int (1 : Int32)), .val (.int (1 : Int32))]) rfl d9_27 (pc' := 28) rfl ?_
      refine own_iinc X5 hx hby rfl (L' := #[.val (.ref o0), .val (.ref o1), .val (.int (1 : Int32)), .val (.int (2 : Int32))]) rfl d9_28 (pc' := 31) rfl ?_
      refine own_goto X5 hx hby d9_31 (by decide) (pc' := 4) (by decide) ?_
      refine own_iloadN X5 hx hby rfl d9_4 (pc' := 5) rfl ?_
      refine own_ifT X5 hx hby d9_5 (by decide) (by decide) (pc' := 34) (by decide) ?_
      refine own_iloadN X5 hx hby rfl d9_34 (pc' := 35) rfl ?_
      exact own_retI X5 hx hby Bd.notSynchronized Bd.returns d9_35 (by decide) (by decide) eH5 ⟨(by rw [if_neg hc3, if_pos hc6]), N0, rfl⟩
    · refine own_acmp X5 hx hby rfl rfl (same := false) d9_23 (decide_eq_false fun q => hc6 (Value.ref.inj q)) (by decide) (pc' := 28) (by decide) ?_
      refine own_iinc X5 hx hby rfl (L' := #[.val (.ref o0), .val (.ref o1), .val (.int (-1 : Int32)), .val (.int (2 : Int32))]) rfl d9_28 (pc' := 31) rfl ?_
      refine own_goto X5 hx hby d9_31 (by decide) (pc' := 4) (by decide) ?_
      refine own_iloadN X5 hx hby rfl d9_4 (pc' := 5) rfl ?_
      refine own_ifF X5 hx hby d9_5 (by decide) (pc' := 8) rfl ?_
      refine own_iloadN X5 hx hby rfl d9_8 (pc' := 9) rfl ?_
      refine own_aloadN X5 hx hby rfl rfl d9_9 (pc' := 10) rfl ?_
      refine own_getF X5 hx hby hZ hown (host := "") (Or.inl (hw _ (List.mem_of_getElem? (i := 100) rfl))) Via.refl eH5 F_o0_size d9_10 (pc' := 13) rfl (fun T7 X7 eH7 => ?_)
      refine own_icT X7 hx hby d9_13 (by decide) (by decide) (pc' := 34) (by decide) ?_
      refine own_iloadN X7 hx hby rfl d9_34 (pc' := 35) rfl ?_
      exact own_retI X7 hx hby Bd.notSynchronized Bd.returns d9_35 (by decide) (by decide) eH7 ⟨(by rw [if_neg hc3, if_neg hc6]), N0, rfl⟩
theorem ef9n2 (m : MethodId) (x0 : Addr) : entryFrame m #[(.ref x0), .null] 4 = mkF m 0 #[.val (.ref x0), .val .null, .unset, .unset] [] := by first | (simp [entryFrame, mkF, argsToLocals, Value.category]; done) | rfl
def Q9n2 (Z : State) (o0 : Addr) (vehicles_o0 : Addr) (link_o0 : Int32) (part_o0 : Int32) (x0 : Addr) (x1 : Addr) (h0 : Heap) (n0 : Nat) (v : Option Value) (h : Heap) (L : List Loc) : Prop := v = some (.int (-1 : Int32)) ∧ Fr n0 L ∧ h0 = h
set_option maxRecDepth 65536 in
set_option maxHeartbeats 40000000 in
theorem rm9n2 (l : Launch) (Z : State) (a0 : Array Value) (hw : ∀ d ∈ tables_1, d.before a0 Z = true) (ws : List Jvm.Cond) (o0 : Addr) (vehicles_o0 : Addr) (link_o0 : Int32) (part_o0 : Int32) (x0 : Addr) (x1 : Addr) (h0 : Heap) (n0 : Nat) (Z0 : n0 ≤ h0.size) (F_o0_vehicles : Fld Z h0 o0 "com/example/phlow/phlow/engine/Lane" "vehicles" "[Lcom/example/phlow/phlow/engine/Vehicle;" (.ref vehicles_o0)) (F_o0_link : Fld Z h0 o0 "com/example/phlow/phlow/engine/Lane" "link" "I" (.int link_o0)) (F_o0_part : Fld Z h0 o0 "com/example/phlow/phlow/engine/Lane" "part" "I" (.int part_o0)) (F_o0_size : Fld Z h0 o0 "com/example/phlow/phlow/engine/Lane" "size" "I" (.int (2 : Int32))) (V_vehicles_o0 : Ary (ovO Z "com/example/phlow/phlow/engine/Vehicle") Z h0 vehicles_o0 (.object "com/example/phlow/phlow/engine/Vehicle") [(.ref x0), (.ref x1), .null, .null]) :
    MetFree l (⟨"com/example/phlow/phlow/engine/Lane", "indexOf", "(Lcom/example/phlow/phlow/engine/Vehicle;)I"⟩ : MethodName) (head1 (Jvm.Cond.code (⟨"com/example/phlow/phlow/engine/Lane", "indexOf", "(Lcom/example/phlow/phlow/engine/Vehicle;)I"⟩ : MethodName) prog_11_method_7_code 4 (some .int) :: ws) ({ frames := 0, cells := 0, slots := 0, locals := 0 } : Room)) (fun a U => a = #[(.ref o0), .null] ∧ Z.Warmed39 U.vm ∧ U.heap = h0) (fun _ _ _ _ _ => True) (fun _ U o U' => ∃ v L, o = .returned v ∧ Q9n2 Z o0 vehicles_o0 link_o0 part_o0 x0 x1 h0 n0 v U'.heap L ∧ FrameEnd U o U' L ({ frames := 0, cells := 0, slots := 0, locals := 0 } : Room).cells ({ frames := 0, cells := 0, slots := 0, locals := 0 } : Room).slots) := by
  refine MetFree.of_bodySF (plainFor_of_name pn_com_example_phlow_phlow_engine_Lane) hisR ?_
  intro p e s m args below meth c s₁ Bd hml0 hP hK
  obtain ⟨rfl, hZ, hhp⟩ := hP
  have hx := Bd.exec
  have hby := Bd.bytes
  have hml : c.maxLocals = 4 := hml0
  have hown : s.vm.findClass "com/example/phlow/phlow/engine/Lane" = some m.cls := findClass_of_methodNamed Bd.named
  have hnm := (name_of_methodNamed Bd.named Bd.method).1
  have X0 : Stand p l e ({ frames := 0, cells := 0, slots := 0, locals := 0 } : Room) s m #[(.ref o0), .null] below meth c s₁ [] 0 0 := Stand.of_body Bd
  have eH0 : s₁.heap = h0 := by rw [← hhp, Bd.state]; rfl
  have N0 := Fr.nil n0
  show Gt p.tables e below (fun o U' => ∃ v L, o = .returned v ∧ Q9n2 Z o0 vehicles_o0 link_o0 part_o0 x0 x1 h0 n0 v U'.heap L ∧ FrameEnd s o U' L ({ frames := 0, cells := 0, slots := 0, locals := 0 } : Room).cells ({ frames := 0, cells := 0, slots := 0, locals := 0 } : Room).slots) _
  refine own_cast (ef9n2 m o0) ?_
  refine own_iconst X0 hx hby (v := (-1 : Int32)) (by decide) d9_0 (pc' := 1) rfl ?_
  refine own_istoreN X0 hx hby (L' := #[.val (.ref o0), .val .null, .val (.int (-1 : Int32)), .unset]) rfl d9_1 (pc' := 2) rfl ?_
  refine own_iconst X0 hx hby (v := (0 : Int32)) (by decide) d9_2 (pc' := 3) rfl ?_
  refine own_istoreN X0 hx hby (L' := #[.val (.ref o0), .val .null, .val (.int (-1 : Int32)), .val (.int (0 : Int32))]) rfl d9_3 (pc' := 4) rfl ?_
  refine own_iloadN X0 hx hby rfl d9_4 (pc' := 5) rfl ?_
  refine own_ifF X0 hx hby d9_5 (by decide) (pc' := 8) rfl ?_
  refine own_iloadN X0 hx hby rfl d9_8 (pc' := 9) rfl ?_
  refine own_aloadN X0 hx hby rfl rfl d9_9 (pc' := 10) rfl ?_
  refine own_getF X0 hx hby hZ hown (host := "") (Or.inl (hw _ (List.mem_of_getElem? (i := 100) rfl))) Via.refl eH0 F_o0_size d9_10 (pc' := 13) rfl (fun T1 X1 eH1 => ?_)
  refine own_icF X1 hx hby d9_13 (by decide) (pc' := 16) rfl ?_
  refine own_aloadN X1 hx hby rfl rfl d9_16 (pc' := 17) rfl ?_
  refine own_getF X1 hx hby hZ hown (host := "") (Or.inl (hw _ (List.mem_of_getElem? (i := 85) rfl))) Via.refl eH1 F_o0_vehicles d9_17 (pc' := 20) rfl (fun T2 X2 eH2 => ?_)
  refine own_iloadN X2 hx hby rfl d9_20 (pc' := 21) rfl ?_
  refine own_aaload X2 hx hby hZ eH2 V_vehicles_o0 rfl (by decide) (v := (.ref x0)) rfl d9_21 (pc' := 22) rfl ?_
  refine own_aloadN X2 hx hby rfl rfl d9_22 (pc' := 23) rfl ?_
  refine own_acmp X2 hx hby rfl rfl (same := false) d9_23 (decide_eq_false nofun) (by decide) (pc' := 28) (by decide) ?_
  refine own_iinc X2 hx hby rfl (L' := #[.val (.ref o0), .val .null, .val (.int (-1 : Int32)), .val (.int (1 : Int32))]) rfl d9_28 (pc' := 31) rfl ?_
  refine own_goto X2 hx hby d9_31 (by decide) (pc' := 4) (by decide) ?_
  refine own_iloadN X2 hx hby rfl d9_4 (pc' := 5) rfl ?_
  refine own_ifF X2 hx hby d9_5 (by decide) (pc' := 8) rfl ?_
  refine own_iloadN X2 hx hby rfl d9_8 (pc' := 9) rfl ?_
  refine own_aloadN X2 hx hby rfl rfl d9_9 (pc' := 10) rfl ?_
  refine own_getF X2 hx hby hZ hown (host := "") (Or.inl (hw _ (List.mem_of_getElem? (i := 100) rfl))) Via.refl eH2 F_o0_size d9_10 (pc' := 13) rfl (fun T3 X3 eH3 => ?_)
  refine own_icF X3 hx hby d9_13 (by decide) (pc' := 16) rfl ?_
  refine own_aloadN X3 hx hby rfl rfl d9_16 (pc' := 17) rfl ?_
  refine own_getF X3 hx hby hZ hown (host := "") (Or.inl (hw _ (List.mem_of_getElem? (i := 85) rfl))) Via.refl eH3 F_o0_vehicles d9_17 (pc' := 20) rfl (fun T4 X4 eH4 => ?_)
  refine own_iloadN X4 hx hby rfl d9_20 (pc' := 21) rfl ?_
  refine own_aaload X4 hx hby hZ eH4 V_vehicles_o0 rfl (by decide) (v := (.ref x1)) rfl d9_21 (pc' := 22) rfl ?_
  refine own_aloadN X4 hx hby rfl rfl d9_22 (pc' := 23) rfl ?_
  refine own_acmp X4 hx hby rfl rfl (same := false) d9_23 (decide_eq_false nofun) (by decide) (pc' := 28) (by decide) ?_
  refine own_iinc X4 hx hby rfl (L' := #[.val (.ref o0), .val .null, .val (.int (-1 : Int32)), .val (.int (2 : Int32))]) rfl d9_28 (pc' := 31) rfl ?_
  refine own_goto X4 hx hby d9_31 (by decide) (pc' := 4) (by decide) ?_
  refine own_iloadN X4 hx hby rfl d9_4 (pc' := 5) rfl ?_
  refine own_ifF X4 hx hby d9_5 (by decide) (pc' := 8) rfl ?_
  refine own_iloadN X4 hx hby rfl d9_8 (pc' := 9) rfl ?_
  refine own_aloadN X4 hx hby rfl rfl d9_9 (pc' := 10) rfl ?_
  refine own_getF X4 hx hby hZ hown (host := "") (Or.inl (hw _ (List.mem_of_getElem? (i := 100) rfl))) Via.refl eH4 F_o0_size d9_10 (pc' := 13) rfl (fun T5 X5 eH5 => ?_)
  refine own_icT X5 hx hby d9_13 (by decide) (by decide) (pc' := 34) (by decide) ?_
  refine own_iloadN X5 hx hby rfl d9_34 (pc' := 35) rfl ?_
  exact own_retI X5 hx hby Bd.notSynchronized Bd.returns d9_35 (by decide) (by decide) eH5 ⟨rfl, N0, rfl⟩
theorem ef9s3 (m : MethodId) (x0 : Addr) (x1 : Addr) : entryFrame m #[(.ref x0), (.ref x1)] 4 = mkF m 0 #[.val (.ref x0), .val (.ref x1), .unset, .unset] [] := by first | (simp [entryFrame, mkF, argsToLocals, Value.category]; done) | rfl
def Q9s3 (Z : State) (o0 : Addr) (o1 : Addr) (vehicles_o0 : Addr) (link_o0 : Int32) (part_o0 : Int32) (x0 : Addr) (x1 : Addr) (x2 : Addr) (h0 : Heap) (n0 : Nat) (v : Option Value) (h : Heap) (L : List Loc) : Prop := v = some (.int (if x0 = o1 then (0 : Int32) else (if x1 = o1 then (1 : Int32) else (if x2 = o1 then (2 : Int32) else (-1 : Int32))))) ∧ Fr n0 L ∧ h0 = h
set_option maxRecDepth 65536 in
set_option maxHeartbeats 40000000 in
theorem rm9s3 (l : Launch) (Z : State) (a0 : Array Value) (hw : ∀ d ∈ tables_1, d.before a0 Z = true) (ws : List Jvm.Cond) (o0 : Addr) (o1 : Addr) (vehicles_o0 : Addr) (link_o0 : Int32) (part_o0 : Int32) (x0 : Addr) (x1 : Addr) (x2 : Addr) (h0 : Heap) (n0 : Nat) (Z0 : n0 ≤ h0.size) (F_o0_vehicles : Fld Z h0 o0 "com/example/phlow/phlow/engine/Lane" "vehicles" "[Lcom/example/phlow/phlow/engine/Vehicle;" (.ref vehicles_o0)) (F_o0_link : Fld Z h0 o0 "com/example/phlow/phlow/engine/Lane" "link" "I" (.int link_o0)) (F_o0_part : Fld Z h0 o0 "com/example/phlow/phlow/engine/Lane" "part" "I" (.int part_o0)) (F_o0_size : Fld Z h0 o0 "com/example/phlow/phlow/engine/Lane" "size" "I" (.int (3 : Int32))) (V_vehicles_o0 : Ary (ovO Z "com/example/phlow/phlow/engine/Vehicle") Z h0 vehicles_o0 (.object "com/example/phlow/phlow/engine/Vehicle") [(.ref x0), (.ref x1), (.ref x2), .null]) :
    MetFree l (⟨"com/example/phlow/phlow/engine/Lane", "indexOf", "(Lcom/example/phlow/phlow/engine/Vehicle;)I"⟩ : MethodName) (head1 (Jvm.Cond.code (⟨"com/example/phlow/phlow/engine/Lane", "indexOf", "(Lcom/example/phlow/phlow/engine/Vehicle;)I"⟩ : MethodName) prog_11_method_7_code 4 (some .int) :: ws) ({ frames := 0, cells := 0, slots := 0, locals := 0 } : Room)) (fun a U => a = #[(.ref o0), (.ref o1)] ∧ Z.Warmed39 U.vm ∧ U.heap = h0) (fun _ _ _ _ _ => True) (fun _ U o U' => ∃ v L, o = .returned v ∧ Q9s3 Z o0 o1 vehicles_o0 link_o0 part_o0 x0 x1 x2 h0 n0 v U'.heap L ∧ FrameEnd U o U' L ({ frames := 0, cells := 0, slots := 0, locals := 0 } : Room).cells ({ frames := 0, cells := 0, slots := 0, locals := 0 } : Room).slots) := by
  refine MetFree.of_bodySF (plainFor_of_name pn_com_example_phlow_phlow_engine_Lane) hisR ?_
  intro p e s m args below meth c s₁ Bd hml0 hP hK
  obtain ⟨rfl, hZ, hhp⟩ := hP
  have hx := Bd.exec
  have hby := Bd.bytes
  have hml : c.maxLocals = 4 := hml0
  have hown : s.vm.findClass "com/example/phlow/phlow/engine/Lane" = some m.cls := findClass_of_methodNamed Bd.named
  have hnm := (name_of_methodNamed Bd.named Bd.method).1
  have X0 : Stand p l e ({ frames := 0, cells := 0, slots := 0, locals := 0 } : Room) s m #[(.ref o0), (.ref o1)] below meth c s₁ [] 0 0 := Stand.of_body Bd
  have eH0 : s₁.heap = h0 := by rw [← hhp, Bd.state]; rfl
  have N0 := Fr.nil n0
  show Gt p.tables e below (fun o U' => ∃ v L, o = .returned v ∧ Q9s3 Z o0 o1 vehicles_o0 link_o0 part_o0 x0 x1 x2 h0 n0 v U'.heap L ∧ FrameEnd s o U' L ({ frames := 0, cells := 0, slots := 0, locals := 0 } : Room).cells ({ frames := 0, cells := 0, slots := 0, locals := 0 } : Room).slots) _
  refine own_cast (ef9s3 m o0 o1) ?_
  refine own_iconst X0 hx hby (v := (-1 : Int32)) (by decide) d9_0 (pc' := 1) rfl ?_
  refine own_istoreN X0 hx hby (L' := #[.val (.ref o0), .val (.ref o1), .val (.int (-1 : Int32)), .unset]) rfl d9_1 (pc' := 2) rfl ?_
  refine own_iconst X0 hx hby (v := (0 : Int32)) (by decide) d9_2 (pc' := 3) rfl ?_
  refine own_istoreN X0 hx hby (L' := #[.val (.ref o0), .val (.ref o1), .val (.int (-1 : Int32)), .val (.int (0 : Int32))]) rfl d9_3 (pc' := 4) rfl ?_
  refine own_iloadN X0 hx hby rfl d9_4 (pc' := 5) rfl ?_
  refine own_ifF X0 hx hby d9_5 (by decide) (pc' := 8) rfl ?_
  refine own_iloadN X0 hx hby rfl d9_8 (pc' := 9) rfl ?_
  refine own_aloadN X0 hx hby rfl rfl d9_9 (pc' := 10) rfl ?_
  refine own_getF X0 hx hby hZ hown (host := "") (Or.inl (hw _ (List.mem_of_getElem? (i := 100) rfl))) Via.refl eH0 F_o0_size d9_10 (pc' := 13) rfl (fun T1 X1 eH1 => ?_)
  refine own_icF X1 hx hby d9_13 (by decide) (pc' := 16) rfl ?_
  refine own_aloadN X1 hx hby rfl rfl d9_16 (pc' := 17) rfl ?_
  refine own_getF X1 hx hby hZ hown (host := "") (Or.inl (hw _ (List.mem_of_getElem? (i := 85) rfl))) Via.refl eH1 F_o0_vehicles d9_17 (pc' := 20) rfl (fun T2 X2 eH2 => ?_)
  refine own_iloadN X2 hx hby rfl d9_20 (pc' := 21) rfl ?_
  refine own_aaload X2 hx hby hZ eH2 V_vehicles_o0 rfl (by decide) (v := (.ref x0)) rfl d9_21 (pc' := 22) rfl ?_
  refine own_aloadN X2 hx hby rfl rfl d9_22 (pc' := 23) rfl ?_
  by_cases hc3 : x0 = o1
  · refine own_acmp X2 hx hby rfl rfl (same := true) d9_23 (decide_eq_true (congrArg Value.ref hc3)) (by decide) (pc' := 26) (by decide) ?_
    refine own_iloadN X2 hx hby rfl d9_26 (pc' := 27) rfl ?_
    refine own_istoreN X2 hx hby (L' := #[.val (.ref o0), .val (.ref o1), .val (.int (0 : Int32)), .val (.int (0 : Int32))]) rfl d9_27 (pc' := 28) rfl ?_
    refine own_iinc X2 hx hby rfl (L' := #[.val (.ref o0), .val (.ref o1), .val (.int (0 : Int32)), .val (.int (1 : Int32))]) rfl d9_28 (pc' := 31) rfl ?_
    refine own_goto X2 hx hby d9_31 (by decide) (pc' := 4) (by decide) ?_
    refine own_iloadN X2 hx hby rfl d9_4 (pc' := 5) rfl ?_
    refine own_ifT X2 hx hby d9_5 (by decide) (by decide) (pc' := 34) (by decide) ?_
    refine own_iloadN X2 hx hby rfl d9_34 (pc' := 35) rfl ?_
    exact own_retI X2 hx hby Bd.notSynchronized Bd.returns d9_35 (by decide) (by decide) eH2 ⟨(by rw [if_pos hc3]), N0, rfl⟩
  · refine own_acmp X2 hx hby rfl rfl (same := false) d9_23 (decide_eq_false fun q => hc3 (Value.ref.inj q)) (by decide) (pc' := 28) (by decide) ?_
    refine own_iinc X2 hx hby rfl (L' := #[.val (.ref o0), .val (.ref o1), .val (.int (-1 : Int32)), .val (.int (1 : Int32))]) rfl d9_28 (pc' := 31) rfl ?_
    refine own_goto X2 hx hby d9_31 (by decide) (pc' := 4) (by decide) ?_
    refine own_iloadN X2 hx hby rfl d9_4 (pc' := 5) rfl ?_
    refine own_ifF X2 hx hby d9_5 (by decide) (pc' := 8) rfl ?_
    refine own_iloadN X2 hx hby rfl d9_8 (pc' := 9) rfl ?_
    refine own_aloadN X2 hx hby rfl rfl d9_9 (pc' := 10) rfl ?_
    refine own_getF X2 hx hby hZ hown (host := "") (Or.inl (hw _ (List.mem_of_getElem? (i := 100) rfl))) Via.refl eH2 F_o0_size d9_10 (pc' := 13) rfl (fun T4 X4 eH4 => ?_)
    refine own_icF X4 hx hby d9_13 (by decide) (pc' := 16) rfl ?_
    refine own_aloadN X4 hx hby rfl rfl d9_16 (pc' := 17) rfl ?_
    refine own_getF X4 hx hby hZ hown (host := "") (Or.inl (hw _ (List.mem_of_getElem? (i := 85) rfl))) Via.refl eH4 F_o0_vehicles d9_17 (pc' := 20) rfl (fun T5 X5 eH5 => ?_)
    refine own_iloadN X5 hx hby rfl d9_20 (pc' := 21) rfl ?_
    refine own_aaload X5 hx hby hZ eH5 V_vehicles_o0 rfl (by decide) (v := (.ref x1)) rfl d9_21 (pc' := 22) rfl ?_
    refine own_aloadN X5 hx hby rfl rfl d9_22 (pc' := 23) rfl ?_
    by_cases hc6 : x1 = o1
    · refine own_acmp X5 hx hby rfl rfl (same := true) d9_23 (decide_eq_true (congrArg Value.ref hc6)) (by decide) (pc' := 26) (by decide) ?_
      refine own_iloadN X5 hx hby rfl d9_26 (pc' := 27) rfl ?_
      refine own_istoreN X5 hx hby (L' := #[.val (.ref o0), .val (.ref o1), .val (.int (1 : Int32)), .val (.int (1 : Int32))]) rfl d9_27 (pc' := 28) rfl ?_
      refine own_iinc X5 hx hby rfl (L' := #[.val (.ref o0), .val (.ref o1), .val (.int (1 : Int32)), .val (.int (2 : Int32))]) rfl d9_28 (pc' := 31) rfl ?_
      refine own_goto X5 hx hby d9_31 (by decide) (pc' := 4) (by decide) ?_
      refine own_iloadN X5 hx hby rfl d9_4 (pc' := 5) rfl ?_
      refine own_ifT X5 hx hby d9_5 (by decide) (by decide) (pc' := 34) (by decide) ?_
      refine own_iloadN X5 hx hby rfl d9_34 (pc' := 35) rfl ?_
      exact own_retI X5 hx hby Bd.notSynchronized Bd.returns d9_35 (by decide) (by decide) eH5 ⟨(by rw [if_neg hc3, if_pos hc6]), N0, rfl⟩
    · refine own_acmp X5 hx hby rfl rfl (same := false) d9_23 (decide_eq_false fun q => hc6 (Value.ref.inj q)) (by decide) (pc' := 28) (by decide) ?_
      refine own_iinc X5 hx hby rfl (L' := #[.val (.ref o0), .val (.ref o1), .val (.int (-1 : Int32)), .val (.int (2 : Int32))]) rfl d9_28 (pc' := 31) rfl ?_
      refine own_goto X5 hx hby d9_31 (by decide) (pc' := 4) (by decide) ?_
      refine own_iloadN X5 hx hby rfl d9_4 (pc' := 5) rfl ?_
      refine own_ifF X5 hx hby d9_5 (by decide) (pc' := 8) rfl ?_
      refine own_iloadN X5 hx hby rfl d9_8 (pc' := 9) rfl ?_
      refine own_aloadN X5 hx hby rfl rfl d9_9 (pc' := 10) rfl ?_
      refine own_getF X5 hx hby hZ hown (host := "") (Or.inl (hw _ (List.mem_of_getElem? (i := 100) rfl))) Via.refl eH5 F_o0_size d9_10 (pc' := 13) rfl (fun T7 X7 eH7 => ?_)
      refine own_icF X7 hx hby d9_13 (by decide) (pc' := 16) rfl ?_
      refine own_aloadN X7 hx hby rfl rfl d9_16 (pc' := 17) rfl ?_
      refine own_getF X7 hx hby hZ hown (host := "") (Or.inl (hw _ (List.mem_of_getElem? (i := 85) rfl))) Via.refl eH7 F_o0_vehicles d9_17 (pc' := 20) rfl (fun T8 X8 eH8 => ?_)
      refine own_iloadN X8 hx hby rfl d9_20 (pc' := 21) rfl ?_
      refine own_aaload X8 hx hby hZ eH8 V_vehicles_o0 rfl (by decide) (v := (.ref x2)) rfl d9_21 (pc' := 22) rfl ?_
      refine own_aloadN X8 hx hby rfl rfl d9_22 (pc' := 23) rfl ?_
      by_cases hc9 : x2 = o1
      · refine own_acmp X8 hx hby rfl rfl (same := true) d9_23 (decide_eq_true (congrArg Value.ref hc9)) (by decide) (pc' := 26) (by decide) ?_
        refine own_iloadN X8 hx hby rfl d9_26 (pc' := 27) rfl ?_
        refine own_istoreN X8 hx hby (L' := #[.val (.ref o0), .val (.ref o1), .val (.int (2 : Int32)), .val (.int (2 : Int32))]) rfl d9_27 (pc' := 28) rfl ?_
        refine own_iinc X8 hx hby rfl (L' := #[.val (.ref o0), .val (.ref o1), .val (.int (2 : Int32)), .val (.int (3 : Int32))]) rfl d9_28 (pc' := 31) rfl ?_
        refine own_goto X8 hx hby d9_31 (by decide) (pc' := 4) (by decide) ?_
        refine own_iloadN X8 hx hby rfl d9_4 (pc' := 5) rfl ?_
        refine own_ifT X8 hx hby d9_5 (by decide) (by decide) (pc' := 34) (by decide) ?_
        refine own_iloadN X8 hx hby rfl d9_34 (pc' := 35) rfl ?_
        exact own_retI X8 hx hby Bd.notSynchronized Bd.returns d9_35 (by decide) (by decide) eH8 ⟨(by rw [if_neg hc3, if_neg hc6, if_pos hc9]), N0, rfl⟩
      · refine own_acmp X8 hx hby rfl rfl (same := false) d9_23 (decide_eq_false fun q => hc9 (Value.ref.inj q)) (by decide) (pc' := 28) (by decide) ?_
        refine own_iinc X8 hx hby rfl (L' := #[.val (.ref o0), .val (.ref o1), .val (.int (-1 : Int32)), .val (.int (3 : Int32))]) rfl d9_28 (pc' := 31) rfl ?_
        refine own_goto X8 hx hby d9_31 (by decide) (pc' := 4) (by decide) ?_
        refine own_iloadN X8 hx hby rfl d9_4 (pc' := 5) rfl ?_
        refine own_ifF X8 hx hby d9_5 (by decide) (pc' := 8) rfl ?_
        refine own_iloadN X8 hx hby rfl d9_8 (pc' := 9) rfl ?_
        refine own_aloadN X8 hx hby rfl rfl d9_9 (pc' := 10) rfl ?_
        refine own_getF X8 hx hby hZ hown (host := "") (Or.inl (hw _ (List.mem_of_getElem? (i := 100) rfl))) Via.refl eH8 F_o0_size d9_10 (pc' := 13) rfl (fun T10 X10 eH10 => ?_)
        refine own_icT X10 hx hby d9_13 (by decide) (by decide) (pc' := 34) (by decide) ?_
        refine own_iloadN X10 hx hby rfl d9_34 (pc' := 35) rfl ?_
        exact own_retI X10 hx hby Bd.notSynchronized Bd.returns d9_35 (by decide) (by decide) eH10 ⟨(by rw [if_neg hc3, if_neg hc6, if_neg hc9]), N0, rfl⟩
theorem ef9n3 (m : MethodId) (x0 : Addr) : entryFrame m #[(.ref x0), .null] 4 = mkF m 0 #[.val (.ref x0), .val .null, .unset, .unset] [] := by first | (simp [entryFrame, mkF, argsToLocals, Value.category]; done) | rfl
def Q9n3 (Z : State) (o0 : Addr) (vehicles_o0 : Addr) (link_o0 : Int32) (part_o0 : Int32) (x0 : Addr) (x1 : Addr) (x2 : Addr) (h0 : Heap) (n0 : Nat) (v : Option Value) (h : Heap) (L : List Loc) : Prop := v = some (.int (-1 : Int32)) ∧ Fr n0 L ∧ h0 = h
set_option maxRecDepth 65536 in
set_option maxHeartbeats 40000000 in
theorem rm9n3 (l : Launch) (Z : State) (a0 : Array Value) (hw : ∀ d ∈ tables_1, d.before a0 Z = true) (ws : List Jvm.Cond) (o0 : Addr) (vehicles_o0 : Addr) (link_o0 : Int32) (part_o0 : Int32) (x0 : Addr) (x1 : Addr) (x2 : Addr) (h0 : Heap) (n0 : Nat) (Z0 : n0 ≤ h0.size) (F_o0_vehicles : Fld Z h0 o0 "com/example/phlow/phlow/engine/Lane" "vehicles" "[Lcom/example/phlow/phlow/engine/Vehicle;" (.ref vehicles_o0)) (F_o0_link : Fld Z h0 o0 "com/example/phlow/phlow/engine/Lane" "link" "I" (.int link_o0)) (F_o0_part : Fld Z h0 o0 "com/example/phlow/phlow/engine/Lane" "part" "I" (.int part_o0)) (F_o0_size : Fld Z h0 o0 "com/example/phlow/phlow/engine/Lane" "size" "I" (.int (3 : Int32))) (V_vehicles_o0 : Ary (ovO Z "com/example/phlow/phlow/engine/Vehicle") Z h0 vehicles_o0 (.object "com/example/phlow/phlow/engine/Vehicle") [(.ref x0), (.ref x1), (.ref x2), .null]) :
    MetFree l (⟨"com/example/phlow/phlow/engine/Lane", "indexOf", "(Lcom/example/phlow/phlow/engine/Vehicle;)I"⟩ : MethodName) (head1 (Jvm.Cond.code (⟨"com/example/phlow/phlow/engine/Lane", "indexOf", "(Lcom/example/phlow/phlow/engine/Vehicle;)I"⟩ : MethodName) prog_11_method_7_code 4 (some .int) :: ws) ({ frames := 0, cells := 0, slots := 0, locals := 0 } : Room)) (fun a U => a = #[(.ref o0), .null] ∧ Z.Warmed39 U.vm ∧ U.heap = h0) (fun _ _ _ _ _ => True) (fun _ U o U' => ∃ v L, o = .returned v ∧ Q9n3 Z o0 vehicles_o0 link_o0 part_o0 x0 x1 x2 h0 n0 v U'.heap L ∧ FrameEnd U o U' L ({ frames := 0, cells := 0, slots := 0, locals := 0 } : Room).cells ({ frames := 0, cells := 0, slots := 0, locals := 0 } : Room).slots) := by
  refine MetFree.of_bodySF (plainFor_of_name pn_com_example_phlow_phlow_engine_Lane) hisR ?_
  intro p e s m args below meth c s₁ Bd hml0 hP hK
  obtain ⟨rfl, hZ, hhp⟩ := hP
  have hx := Bd.exec
  have hby := Bd.bytes
  have hml : c.maxLocals = 4 := hml0
  have hown : s.vm.findClass "com/example/phlow/phlow/engine/Lane" = some m.cls := findClass_of_methodNamed Bd.named
  have hnm := (name_of_methodNamed Bd.named Bd.method).1
  have X0 : Stand p l e ({ frames := 0, cells := 0, slots := 0, locals := 0 } : Room) s m #[(.ref o0), .null] below meth c s₁ [] 0 0 := Stand.of_body Bd
  have eH0 : s₁.heap = h0 := by rw [← hhp, Bd.state]; rfl
  have N0 := Fr.nil n0
  show Gt p.tables e below (fun o U' => ∃ v L, o = .returned v ∧ Q9n3 Z o0 vehicles_o0 link_o0 part_o0 x0 x1 x2 h0 n0 v U'.heap L ∧ FrameEnd s o U' L ({ frames := 0, cells := 0, slots := 0, locals := 0 } : Room).cells ({ frames := 0, cells := 0, slots := 0, locals := 0 } : Room).slots) _
  refine own_cast (ef9n3 m o0) ?_
  refine own_iconst X0 hx hby (v := (-1 : Int32)) (by decide) d9_0 (pc' := 1) rfl ?_
  refine own_istoreN X0 hx hby (L' := #[.val (.ref o0), .val .null, .val (.int (-1 : Int32)), .unset]) rfl d9_1 (pc' := 2) rfl ?_
  refine own_iconst X0 hx hby (v := (0 : Int32)) (by decide) d9_2 (pc' := 3) rfl ?_
  refine own_istoreN X0 hx hby (L' := #[.val (.ref o0), .val .null, .val (.int (-1 : Int32)), .val (.int (0 : Int32))]) rfl d9_3 (pc' := 4) rfl ?_
  refine own_iloadN X0 hx hby rfl d9_4 (pc' := 5) rfl ?_
  refine own_ifF X0 hx hby d9_5 (by decide) (pc' := 8) rfl ?_
  refine own_iloadN X0 hx hby rfl d9_8 (pc' := 9) rfl ?_
  refine own_aloadN X0 hx hby rfl rfl d9_9 (pc' := 10) rfl ?_
  refine own_getF X0 hx hby hZ hown (host := "") (Or.inl (hw _ (List.mem_of_getElem? (i := 100) rfl))) Via.refl eH0 F_o0_size d9_10 (pc' := 13) rfl (fun T1 X1 eH1 => ?_)
  refine own_icF X1 hx hby d9_13 (by decide) (pc' := 16) rfl ?_
  refine own_aloadN X1 hx hby rfl rfl d9_16 (pc' := 17) rfl ?_
  refine own_getF X1 hx hby hZ hown (host := "") (Or.inl (hw _ (List.mem_of_getElem? (i := 85) rfl))) Via.refl eH1 F_o0_vehicles d9_17 (pc' := 20) rfl (fun T2 X2 eH2 => ?_)
  refine own_iloadN X2 hx hby rfl d9_20 (pc' := 21) rfl ?_
  refine own_aaload X2 hx hby hZ eH2 V_vehicles_o0 rfl (by decide) (v := (.ref x0)) rfl d9_21 (pc' := 22) rfl ?_
  refine own_aloadN X2 hx hby rfl rfl d9_22 (pc' := 23) rfl ?_
  refine own_acmp X2 hx hby rfl rfl (same := false) d9_23 (decide_eq_false nofun) (by decide) (pc' := 28) (by decide) ?_
  refine own_iinc X2 hx hby rfl (L' := #[.val (.ref o0), .val .null, .val (.int (-1 : Int32)), .val (.int (1 : Int32))]) rfl d9_28 (pc' := 31) rfl ?_
  refine own_goto X2 hx hby d9_31 (by decide) (pc' := 4) (by decide) ?_
  refine own_iloadN X2 hx hby rfl d9_4 (pc' := 5) rfl ?_
  refine own_ifF X2 hx hby d9_5 (by decide) (pc' := 8) rfl ?_
  refine own_iloadN X2 hx hby rfl d9_8 (pc' := 9) rfl ?_
  refine own_aloadN X2 hx hby rfl rfl d9_9 (pc' := 10) rfl ?_
  refine own_getF X2 hx hby hZ hown (host := "") (Or.inl (hw _ (List.mem_of_getElem? (i := 100) rfl))) Via.refl eH2 F_o0_size d9_10 (pc' := 13) rfl (fun T3 X3 eH3 => ?_)
  refine own_icF X3 hx hby d9_13 (by decide) (pc' := 16) rfl ?_
  refine own_aloadN X3 hx hby rfl rfl d9_16 (pc' := 17) rfl ?_
  refine own_getF X3 hx hby hZ hown (host := "") (Or.inl (hw _ (List.mem_of_getElem? (i := 85) rfl))) Via.refl eH3 F_o0_vehicles d9_17 (pc' := 20) rfl (fun T4 X4 eH4 => ?_)
  refine own_iloadN X4 hx hby rfl d9_20 (pc' := 21) rfl ?_
  refine own_aaload X4 hx hby hZ eH4 V_vehicles_o0 rfl (by decide) (v := (.ref x1)) rfl d9_21 (pc' := 22) rfl ?_
  refine own_aloadN X4 hx hby rfl rfl d9_22 (pc' := 23) rfl ?_
  refine own_acmp X4 hx hby rfl rfl (same := false) d9_23 (decide_eq_false nofun) (by decide) (pc' := 28) (by decide) ?_
  refine own_iinc X4 hx hby rfl (L' := #[.val (.ref o0), .val .null, .val (.int (-1 : Int32)), .val (.int (2 : Int32))]) rfl d9_28 (pc' := 31) rfl ?_
  refine own_goto X4 hx hby d9_31 (by decide) (pc' := 4) (by decide) ?_
  refine own_iloadN X4 hx hby rfl d9_4 (pc' := 5) rfl ?_
  refine own_ifF X4 hx hby d9_5 (by decide) (pc' := 8) rfl ?_
  refine own_iloadN X4 hx hby rfl d9_8 (pc' := 9) rfl ?_
  refine own_aloadN X4 hx hby rfl rfl d9_9 (pc' := 10) rfl ?_
  refine own_getF X4 hx hby hZ hown (host := "") (Or.inl (hw _ (List.mem_of_getElem? (i := 100) rfl))) Via.refl eH4 F_o0_size d9_10 (pc' := 13) rfl (fun T5 X5 eH5 => ?_)
  refine own_icF X5 hx hby d9_13 (by decide) (pc' := 16) rfl ?_
  refine own_aloadN X5 hx hby rfl rfl d9_16 (pc' := 17) rfl ?_
  refine own_getF X5 hx hby hZ hown (host := "") (Or.inl (hw _ (List.mem_of_getElem? (i := 85) rfl))) Via.refl eH5 F_o0_vehicles d9_17 (pc' := 20) rfl (fun T6 X6 eH6 => ?_)
  refine own_iloadN X6 hx hby rfl d9_20 (pc' := 21) rfl ?_
  refine own_aaload X6 hx hby hZ eH6 V_vehicles_o0 rfl (by decide) (v := (.ref x2)) rfl d9_21 (pc' := 22) rfl ?_
  refine own_aloadN X6 hx hby rfl rfl d9_22 (pc' := 23) rfl ?_
  refine own_acmp X6 hx hby rfl rfl (same := false) d9_23 (decide_eq_false nofun) (by decide) (pc' := 28) (by decide) ?_
  refine own_iinc X6 hx hby rfl (L' := #[.val (.ref o0), .val .null, .val (.int (-1 : Int32)), .val (.int (3 : Int32))]) rfl d9_28 (pc' := 31) rfl ?_
  refine own_goto X6 hx hby d9_31 (by decide) (pc' := 4) (by decide) ?_
  refine own_iloadN X6 hx hby rfl d9_4 (pc' := 5) rfl ?_
  refine own_ifF X6 hx hby d9_5 (by decide) (pc' := 8) rfl ?_
  refine own_iloadN X6 hx hby rfl d9_8 (pc' := 9) rfl ?_
  refine own_aloadN X6 hx hby rfl rfl d9_9 (pc' := 10) rfl ?_
  refine own_getF X6 hx hby hZ hown (host := "") (Or.inl (hw _ (List.mem_of_getElem? (i := 100) rfl))) Via.refl eH6 F_o0_size d9_10 (pc' := 13) rfl (fun T7 X7 eH7 => ?_)
  refine own_icT X7 hx hby d9_13 (by decide) (by decide) (pc' := 34) (by decide) ?_
  refine own_iloadN X7 hx hby rfl d9_34 (pc' := 35) rfl ?_
  exact own_retI X7 hx hby Bd.notSynchronized Bd.returns d9_35 (by decide) (by decide) eH7 ⟨rfl, N0, rfl⟩
theorem ef0 (m : MethodId) (x0 : Int32) (x1 : Int32) (x2 : Int32) (x3 : Int32) (x4 : Int32) (x5 : Int32) : entryFrame m #[(.int x0), (.int x1), (.int x2), (.int x3), (.int x4), (.int x5)] maxLocals = mkF m 0 #[.val (.int x0), .val (.int x1), .val (.int x2), .val (.int x3), .val (.int x4), .val (.int x5), .unset, .unset, .unset, .unset, .unset, .unset, .unset, .unset, .unset, .unset, .unset, .unset] [] := by first | (simp [entryFrame, mkF, argsToLocals, Value.category, maxLocals]; done) | rfl
def Q0 (Z : State) (p0 : Int32) (p1 : Int32) (p2 : Int32) (p3 : Int32) (p4 : Int32) (p5 : Int32) (h0 : Heap) (n0 : Nat) (v : Option Value) (h : Heap) (L : List Loc) : Prop := v = some (.int 1) ∧ Fr n0 L
set_option maxRecDepth 65536 in
set_option maxHeartbeats 40000000 in
theorem rm0 (l : Launch) (Z : State) (a0 : Array Value) (hw : ∀ d ∈ tables_1, d.before a0 Z = true) (ws : List Jvm.Cond) (p0 : Int32) (p1 : Int32) (p2 : Int32) (p3 : Int32) (p4 : Int32) (p5 : Int32) (h0 : Heap) (n0 : Nat) (Z0 : n0 ≤ h0.size) :
    MetFree l x (head1 (Jvm.Cond.code x code maxLocals ret :: ws) room_1) (fun a U => a = #[(.int p0), (.int p1), (.int p2), (.int p3), (.int p4), (.int p5)] ∧ Z.Warmed39 U.vm ∧ U.heap = h0) (fun _ _ _ _ _ => True) (fun _ U o U' => ∃ v L, o = .returned v ∧ Q0 Z p0 p1 p2 p3 p4 p5 h0 n0 v U'.heap L ∧ ReturnedEndW U o U' L 40 1280) := by
  refine MetFree.of_bodySF (plainFor_of_name pn_com_example_phlow_phlow_engine_LaneIndexOfPinLaw) hisR ?_
  intro p e s m args below meth c s₁ Bd hml0 hP hK
  obtain ⟨rfl, hZ, hhp⟩ := hP
  have hx := Bd.exec
  have hby := Bd.bytes
  have hml : c.maxLocals = 18 := hml0
  have hown : s.vm.findClass "com/example/phlow/phlow/engine/LaneIndexOfPinLaw" = some m.cls := findClass_of_methodNamed Bd.named
  have hnm := (name_of_methodNamed Bd.named Bd.method).1
  have X0 : Stand p l e room_1 s m #[(.int p0), (.int p1), (.int p2), (.int p3), (.int p4), (.int p5)] below meth c s₁ [] 0 0 := Stand.of_body Bd
  have eH0 : s₁.heap = h0 := by rw [← hhp, Bd.state]; rfl
  have N0 := Fr.nil n0
  show Gt p.tables e below (fun o U' => ∃ v L, o = .returned v ∧ Q0 Z p0 p1 p2 p3 p4 p5 h0 n0 v U'.heap L ∧ ReturnedEndW s o U' L 40 1280) _
  refine own_cast (ef0 m p0 p1 p2 p3 p4 p5) ?_
  refine own_iloadN X0 hx hby rfl at_0 (pc' := 1) rfl ?_
  refine own_iconst X0 hx hby (v := (3 : Int32)) (by decide) at_1 (pc' := 2) rfl ?_
  refine own_iand X0 hx hby rfl at_2 (pc' := 3) rfl ?_
  generalize q_n1 : (p0 &&& (3 : Int32)) = n1
  refine own_istore X0 hx hby (L' := #[.val (.int p0), .val (.int p1), .val (.int p2), .val (.int p3), .val (.int p4), .val (.int p5), .val (.int n1), .unset, .unset, .unset, .unset, .unset, .unset, .unset, .unset, .unset, .unset, .unset]) rfl at_3 (pc' := 5) rfl ?_
  refine own_iload X0 hx hby rfl at_5 (pc' := 7) rfl ?_
  refine own_iconst X0 hx hby (v := (3 : Int32)) (by decide) at_7 (pc' := 8) rfl ?_
  have hk2 : ¬ ((3 : Int32) < n1) := by rcases own_n4 q_n1 with h | h | h | h <;> rw [h] <;> decide
  refine own_icT X0 hx hby at_8 (own_ic_le_n hk2) (by decide) (pc' := 14) (by decide) ?_
  refine own_iloadN X0 hx hby rfl at_14 (pc' := 15) rfl ?_
  refine own_ldcI X0 hx hby hZ hown (hw _ (List.mem_of_getElem? (i := 0) rfl)) at_15 (pc' := 17) rfl ?_
  refine own_iand X0 hx hby rfl at_17 (pc' := 18) rfl ?_
  refine own_iconst X0 hx hby (v := (3 : Int32)) (by decide) at_18 (pc' := 19) rfl ?_
  refine own_irem X0 hx hby (by decide) rfl at_19 (pc' := 20) rfl ?_
  generalize q_n3 : ((p1 &&& (2147483647 : Int32)) % (3 : Int32)) = n3
  refine own_istore X0 hx hby (L' := #[.val (.int p0), .val (.int p1), .val (.int p2), .val (.int p3), .val (.int p4), .val (.int p5), .val (.int n1), .val (.int n3), .unset, .unset, .unset, .unset, .unset, .unset, .unset, .unset, .unset, .unset]) rfl at_20 (pc' := 22) rfl ?_
  refine own_iloadN X0 hx hby rfl at_22 (pc' := 23) rfl ?_
  refine own_ldcI X0 hx hby hZ hown (hw _ (List.mem_of_getElem? (i := 0) rfl)) at_23 (pc' := 25) rfl ?_
  refine own_iand X0 hx hby rfl at_25 (pc' := 26) rfl ?_
  refine own_iconst X0 hx hby (v := (3 : Int32)) (by decide) at_26 (pc' := 27) rfl ?_
  refine own_irem X0 hx hby (by decide) rfl at_27 (pc' := 28) rfl ?_
  generalize q_n4 : ((p2 &&& (2147483647 : Int32)) % (3 : Int32)) = n4
  refine own_istore X0 hx hby (L' := #[.val (.int p0), .val (.int p1), .val (.int p2), .val (.int p3), .val (.int p4), .val (.int p5), .val (.int n1), .val (.int n3), .val (.int n4), .unset, .unset, .unset, .unset, .unset, .unset, .unset, .unset, .unset]) rfl at_28 (pc' := 30) rfl ?_
  refine own_iloadN X0 hx hby rfl at_30 (pc' := 31) rfl ?_
  refine own_ldcI X0 hx hby hZ hown (hw _ (List.mem_of_getElem? (i := 0) rfl)) at_31 (pc' := 33) rfl ?_
  refine own_iand X0 hx hby rfl at_33 (pc' := 34) rfl ?_
  refine own_iconst X0 hx hby (v := (3 : Int32)) (by decide) at_34 (pc' := 35) rfl ?_
  refine own_irem X0 hx hby (by decide) rfl at_35 (pc' := 36) rfl ?_
  generalize q_n5 : ((p3 &&& (2147483647 : Int32)) % (3 : Int32)) = n5
  refine own_istore X0 hx hby (L' := #[.val (.int p0), .val (.int p1), .val (.int p2), .val (.int p3), .val (.int p4), .val (.int p5), .val (.int n1), .val (.int n3), .val (.int n4), .val (.int n5), .unset, .unset, .unset, .unset, .unset, .unset, .unset, .unset]) rfl at_36 (pc' := 38) rfl ?_
  refine own_iload X0 hx hby rfl at_38 (pc' := 40) rfl ?_
  refine own_iconst X0 hx hby (v := (3 : Int32)) (by decide) at_40 (pc' := 41) rfl ?_
  refine own_iand X0 hx hby rfl at_41 (pc' := 42) rfl ?_
  generalize q_n6 : (p4 &&& (3 : Int32)) = n6
  refine own_istore X0 hx hby (L' := #[.val (.int p0), .val (.int p1), .val (.int p2), .val (.int p3), .val (.int p4), .val (.int p5), .val (.int n1), .val (.int n3), .val (.int n4), .val (.int n5), .val (.int n6), .unset, .unset, .unset, .unset, .unset, .unset, .unset]) rfl at_42 (pc' := 44) rfl ?_
  refine own_newO X0 hx hby hZ hown (hw _ (List.mem_of_getElem? (i := 1) rfl)) (hw _ (List.mem_of_getElem? (i := 2) rfl)) (hw _ (List.mem_of_getElem? (i := 3) rfl)) eH0 at_44 (pc' := 47) rfl (by decide) (by decide) (fun T7 h7 b7 X7 eH7 E7 g7 E_b7 D7 => ?_)
  have g_b7 : n0 ≤ b7 := g7 ▸ Z0
  replace Z0 := Nat.le_trans Z0 E7.1
  have F_b7_vehicle : Fld Z h7 b7 "com/example/phlow/phlow/demand/Trip" "vehicle" "Ljava/lang/String;" .null := D7 (Or.inr (hw _ (List.mem_of_getElem? (i := 23) rfl))) (ty := (.object "java/lang/String")) (by decide)
  have F_b7_from : Fld Z h7 b7 "com/example/phlow/phlow/demand/Trip" "from" "J" (.long (0 : Int64)) := D7 (Or.inr (hw _ (List.mem_of_getElem? (i := 25) rfl))) (ty := .long) (by decide)
  have F_b7_to : Fld Z h7 b7 "com/example/phlow/phlow/demand/Trip" "to" "J" (.long (0 : Int64)) := D7 (Or.inr (hw _ (List.mem_of_getElem? (i := 27) rfl))) (ty := .long) (by decide)
  have F_b7_depart : Fld Z h7 b7 "com/example/phlow/phlow/demand/Trip" "depart" "D" (.double (0 : UInt64)) := D7 (Or.inr (hw _ (List.mem_of_getElem? (i := 29) rfl))) (ty := .double) (by decide)
  have F_b7_maxSpeed : Fld Z h7 b7 "com/example/phlow/phlow/demand/Trip" "maxSpeed" "D" (.double (0 : UInt64)) := D7 (Or.inr (hw _ (List.mem_of_getElem? (i := 31) rfl))) (ty := .double) (by decide)
  refine own_dup X7 hx hby rfl at_47 (pc' := 48) rfl ?_
  refine own_ldcS X7 hx hby hZ hown (hw _ (List.mem_of_getElem? (i := 4) rfl)) (fun d hd => hw d (own_wS d hd)) eH7 at_48 (pc' := 50) rfl (n := 4) (by decide) (by decide) (by decide) (by decide) (fun sv8 T8 h8 k1 X8 eH8 E8 hS hk hZ hown => ?_)
  replace E_b7 := E_b7.ext E8
  replace F_b7_vehicle := F_b7_vehicle.ext E8
  replace F_b7_from := F_b7_from.ext E8
  replace F_b7_to := F_b7_to.ext E8
  replace F_b7_depart := F_b7_depart.ext E8
  replace F_b7_maxSpeed := F_b7_maxSpeed.ext E8
  replace Z0 := Nat.le_trans Z0 E8.1
  refine own_lconst X8 hx hby (v := (0 : Int64)) (by decide) at_50 (pc' := 51) rfl ?_
  refine own_lconst X8 hx hby (v := (0 : Int64)) (by decide) at_51 (pc' := 52) rfl ?_
  refine own_dconst0 X8 hx hby (v := (0 : UInt64)) (by decide) at_52 (pc' := 53) rfl ?_
  refine own_special X8 hx hby hZ (y := (⟨"com/example/phlow/phlow/demand/Trip", "<init>", "(Ljava/lang/String;JJD)V"⟩ : MethodName)) (rest := [(.ref b7)]) rfl hown (hw _ (List.mem_of_getElem? (i := 12) rfl)) (hw _ (List.mem_of_getElem? (i := 13) rfl)) rfl (hw _ (List.mem_of_getElem? (i := 14) rfl)) (hw _ (List.mem_of_getElem? (i := 3) rfl)) (by decide) (rm1 l Z a0 hw [] b7 sv8 (0 : Int64) (0 : Int64) (0 : UInt64) .null (0 : Int64) (0 : Int64) (0 : UInt64) (0 : UInt64) h8 n0 Z0 F_b7_vehicle F_b7_from F_b7_to F_b7_depart F_b7_maxSpeed E_b7 g_b7) eH8 (by rw [hml]; rfl) (a := b7) (argsL := [(.ref sv8), (.long (0 : Int64)), (.long (0 : Int64)), (.double (0 : UInt64))]) rfl (lenOf pd_3 rfl) rfl at_53 (pc' := 56) rfl (by decide) (W := 1) (Nat.le_of_eq rfl) (by decide) (by decide) (by decide) (fun T9 h9 Lc9 v9r X9 eH9 hQ9 => ?_)
  obtain ⟨rfl, Nq9, Kq9, gq9_0, gq9_1, gq9_2, gq9_3, gq9_4, gq9_5⟩ := hQ9
  have N9 := Fr.app N0 Nq9
  replace E_b7 := E_b7.keep Kq9
  have E_b7 := gq9_0
  have F_b7_vehicle := gq9_1
  have F_b7_from := gq9_2
  have F_b7_to := gq9_3
  have F_b7_depart := gq9_4
  have F_b7_maxSpeed := gq9_5
  replace Z0 := Nat.le_trans Z0 Kq9.1
  replace hk := Nat.le_trans hk Kq9.1
  refine own_astore X9 hx hby rfl (L' := #[.val (.int p0), .val (.int p1), .val (.int p2), .val (.int p3), .val (.int p4), .val (.int p5), .val (.int n1), .val (.int n3), .val (.int n4), .val (.int n5), .val (.int n6), .val (.ref b7), .unset, .unset, .unset, .unset, .unset, .unset]) rfl at_56 (pc' := 58) rfl ?_
  refine own_newO X9 hx hby hZ hown (hw _ (List.mem_of_getElem? (i := 32) rfl)) (hw _ (List.mem_of_getElem? (i := 33) rfl)) (hw _ (List.mem_of_getElem? (i := 34) rfl)) eH9 at_58 (pc' := 61) rfl (by decide) (by decide) (fun T10 h10 b10 X10 eH10 E10 g10 E_b10 D10 => ?_)
  have g_b10 : n0 ≤ b10 := g10 ▸ Z0
  have ne_b7_b10 : b7 ≠ b10 := Nat.ne_of_lt (g10 ▸ E_b7.lt)
  replace E_b7 := E_b7.ext E10
  replace F_b7_vehicle := F_b7_vehicle.ext E10
  replace F_b7_from := F_b7_from.ext E10
  replace F_b7_to := F_b7_to.ext E10
  replace F_b7_depart := F_b7_depart.ext E10
  replace F_b7_maxSpeed := F_b7_maxSpeed.ext E10
  replace Z0 := Nat.le_trans Z0 E10.1
  replace hk := Nat.le_trans hk E10.1
  have F_b10_departedAt : Fld Z h10 b10 "com/example/phlow/phlow/engine/Vehicle" "departedAt" "D" (.double (0 : UInt64)) := D10 (Or.inl (hw _ (List.mem_of_getElem? (i := 42) rfl))) (ty := .double) (by decide)
  have F_b10_arrivedAt : Fld Z h10 b10 "com/example/phlow/phlow/engine/Vehicle" "arrivedAt" "D" (.double (0 : UInt64)) := D10 (Or.inl (hw _ (List.mem_of_getElem? (i := 44) rfl))) (ty := .double) (by decide)
  have F_b10_trip : Fld Z h10 b10 "com/example/phlow/phlow/engine/Vehicle" "trip" "Lcom/example/phlow/phlow/demand/Trip;" .null := D10 (Or.inr (hw _ (List.mem_of_getElem? (i := 46) rfl))) (ty := (.object "com/example/phlow/phlow/demand/Trip")) (by decide)
  have F_b10_id : Fld Z h10 b10 "com/example/phlow/phlow/engine/Vehicle" "id" "Ljava/lang/String;" .null := D10 (Or.inr (hw _ (List.mem_of_getElem? (i := 53) rfl))) (ty := (.object "java/lang/String")) (by decide)
  have F_b10_maxSpeed : Fld Z h10 b10 "com/example/phlow/phlow/engine/Vehicle" "maxSpeed" "D" (.double (0 : UInt64)) := D10 (Or.inr (hw _ (List.mem_of_getElem? (i := 60) rfl))) (ty := .double) (by decide)
  have F_b10_route : Fld Z h10 b10 "com/example/phlow/phlow/engine/Vehicle" "route" "[I" .null := D10 (Or.inr (hw _ (List.mem_of_getElem? (i := 71) rfl))) (ty := (.array .int)) (by decide)
  have F_b10_link : Fld Z h10 b10 "com/example/phlow/phlow/engine/Vehicle" "link" "I" (.int (0 : Int32)) := D10 (Or.inl (hw _ (List.mem_of_getElem? (i := 73) rfl))) (ty := .int) (by decide)
  have F_b10_nextLink : Fld Z h10 b10 "com/example/phlow/phlow/engine/Vehicle" "nextLink" "I" (.int (0 : Int32)) := D10 (Or.inl (hw _ (List.mem_of_getElem? (i := 75) rfl))) (ty := .int) (by decide)
  have F_b10_pos : Fld Z h10 b10 "com/example/phlow/phlow/engine/Vehicle" "pos" "D" (.double (0 : UInt64)) := D10 (Or.inl (hw _ (List.mem_of_getElem? (i := 118) rfl))) (ty := .double) (by decide)
  refine own_dup X10 hx hby rfl at_61 (pc' := 62) rfl ?_
  refine own_aload X10 hx hby rfl rfl at_62 (pc' := 64) rfl ?_
  refine own_iconst X10 hx hby (v := (0 : Int32)) (by decide) at_64 (pc' := 65) rfl ?_
  refine own_newP X10 hx hby hZ (hw _ (List.mem_of_getElem? (i := 35) rfl)) eH10 at_65 (pc' := 67) rfl (by decide) (N := 0) (by decide) (cap := 0) (by decide) (by decide) (by decide) (by decide) (ad := "[I") (by decide) (fun T11 h11 b11 X11 eH11 E11 g11 E_b11 V_b11 => ?_)
  have g_b11 : n0 ≤ b11 := g11 ▸ Z0
  have ne_b7_b11 : b7 ≠ b11 := Nat.ne_of_lt (g11 ▸ E_b7.lt)
  have ne_b10_b11 : b10 ≠ b11 := Nat.ne_of_lt (g11 ▸ E_b10.lt)
  replace E_b7 := E_b7.ext E11
  replace F_b7_vehicle := F_b7_vehicle.ext E11
  replace F_b7_from := F_b7_from.ext E11
  replace F_b7_to := F_b7_to.ext E11
  replace F_b7_depart := F_b7_depart.ext E11
  replace F_b7_maxSpeed := F_b7_maxSpeed.ext E11
  replace E_b10 := E_b10.ext E11
  replace F_b10_departedAt := F_b10_departedAt.ext E11
  replace F_b10_arrivedAt := F_b10_arrivedAt.ext E11
  replace F_b10_trip := F_b10_trip.ext E11
  replace F_b10_id := F_b10_id.ext E11
  replace F_b10_maxSpeed := F_b10_maxSpeed.ext E11
  replace F_b10_route := F_b10_route.ext E11
  replace F_b10_link := F_b10_link.ext E11
  replace F_b10_nextLink := F_b10_nextLink.ext E11
  replace F_b10_pos := F_b10_pos.ext E11
  replace Z0 := Nat.le_trans Z0 E11.1
  replace hk := Nat.le_trans hk E11.1
  have V_b11 : Ary tr Z h11 b11 .int [] := V_b11
  refine own_special X11 hx hby hZ (y := (⟨"com/example/phlow/phlow/engine/Vehicle", "<init>", "(Lcom/example/phlow/phlow/demand/Trip;[I)V"⟩ : MethodName)) (rest := [(.ref b10)]) rfl hown (hw _ (List.mem_of_getElem? (i := 36) rfl)) (hw _ (List.mem_of_getElem? (i := 37) rfl)) rfl (hw _ (List.mem_of_getElem? (i := 38) rfl)) (hw _ (List.mem_of_getElem? (i := 34) rfl)) (by decide) (rm4 l Z a0 hw [] b10 b7 b11 (0 : UInt64) (0 : UInt64) .null .null (0 : UInt64) .null (0 : Int32) (0 : Int32) (0 : UInt64) sv8 (9218868437227405312 : UInt64) h11 n0 Z0 F_b10_departedAt F_b10_arrivedAt F_b10_trip F_b10_id F_b10_maxSpeed F_b10_route F_b10_link F_b10_nextLink F_b10_pos V_b11 F_b7_vehicle E_b7 F_b7_maxSpeed E_b11 E_b10 g_b10 ne_b7_b10 (Ne.symm ne_b10_b11)) eH11 (by rw [hml]; rfl) (a := b10) (argsL := [(.ref b7), (.ref b11)]) rfl (lenOf pd_4 rfl) rfl at_67 (pc' := 70) rfl (by decide) (W := 1) (Nat.le_of_eq rfl) (by decide) (by decide) (by decide) (fun T12 h12 Lc12 v12r X12 eH12 hQ12 => ?_)
  obtain ⟨b9_12, rfl, Nq12, Kq12, gq12_0, gq12_1, gq12_2, gq12_3, gq12_4, gq12_5, gq12_6, gq12_7, gq12_8, gq12_9, gq12_10, gq12_11, gq12_12⟩ := hQ12
  have N12 := Fr.app N9 Nq12
  have g_b9_12 : n0 ≤ b9_12 := Nat.le_trans Z0 gq12_0
  have ne_b7_b9_12 : b7 ≠ b9_12 := Nat.ne_of_lt (Nat.lt_of_lt_of_le E_b7.lt gq12_0)
  have ne_b10_b9_12 : b10 ≠ b9_12 := Nat.ne_of_lt (Nat.lt_of_lt_of_le E_b10.lt gq12_0)
  have ne_b11_b9_12 : b11 ≠ b9_12 := Nat.ne_of_lt (Nat.lt_of_lt_of_le E_b11.lt gq12_0)
  replace E_b7 := E_b7.keep Kq12
  replace F_b7_vehicle := F_b7_vehicle.keep Kq12 (ninS ne_b7_b10 nin0)
  replace F_b7_from := F_b7_from.keep Kq12 (ninS ne_b7_b10 nin0)
  replace F_b7_to := F_b7_to.keep Kq12 (ninS ne_b7_b10 nin0)
  replace F_b7_depart := F_b7_depart.keep Kq12 (ninS ne_b7_b10 nin0)
  replace F_b7_maxSpeed := F_b7_maxSpeed.keep Kq12 (ninS ne_b7_b10 nin0)
  replace E_b10 := E_b10.keep Kq12
  replace E_b11 := E_b11.keep Kq12
  replace V_b11 := V_b11.keep Kq12 (ninS (Ne.symm ne_b10_b11) nin0)
  have E_b10 := gq12_1
  have F_b10_departedAt := gq12_2
  have F_b10_arrivedAt := gq12_3
  have F_b10_trip := gq12_4
  have F_b10_id := gq12_5
  have F_b10_maxSpeed := gq12_6
  have F_b10_route := gq12_7
  have F_b10_link := gq12_8
  have F_b10_nextLink := gq12_9
  have F_b10_pos := gq12_10
  have E_b9_12 := gq12_11
  have V_b9_12 := gq12_12
  replace Z0 := Nat.le_trans Z0 Kq12.1
  replace hk := Nat.le_trans hk Kq12.1
  as_aux_lemma =>
    refine own_astore X12 hx hby rfl (L' := #[.val (.int p0), .val (.int p1), .val (.int p2), .val (.int p3), .val (.int p4), .val (.int p5), .val (.int n1), .val (.int n3), .val (.int n4), .val (.int n5), .val (.int n6), .val (.ref b7), .val (.ref b10), .unset, .unset, .unset, .unset, .unset]) rfl at_70 (pc' := 72) rfl ?_
    refine own_newO X12 hx hby hZ hown (hw _ (List.mem_of_getElem? (i := 32) rfl)) (hw _ (List.mem_of_getElem? (i := 33) rfl)) (hw _ (List.mem_of_getElem? (i := 34) rfl)) eH12 at_72 (pc' := 75) rfl (by decide) (by decide) (fun T13 h13 b13 X13 eH13 E13 g13 E_b13 D13 => ?_)
    have g_b13 : n0 ≤ b13 := g13 ▸ Z0
    have ne_b7_b13 : b7 ≠ b13 := Nat.ne_of_lt (g13 ▸ E_b7.lt)
    have ne_b10_b13 : b10 ≠ b13 := Nat.ne_of_lt (g13 ▸ E_b10.lt)
    have ne_b11_b13 : b11 ≠ b13 := Nat.ne_of_lt (g13 ▸ E_b11.lt)
    have ne_b9_12_b13 : b9_12 ≠ b13 := Nat.ne_of_lt (g13 ▸ E_b9_12.lt)
    replace E_b7 := E_b7.ext E13
    replace F_b7_vehicle := F_b7_vehicle.ext E13
    replace F_b7_from := F_b7_from.ext E13
    replace F_b7_to := F_b7_to.ext E13
    replace F_b7_depart := F_b7_depart.ext E13
    replace F_b7_maxSpeed := F_b7_maxSpeed.ext E13
    replace E_b10 := E_b10.ext E13
    replace F_b10_departedAt := F_b10_departedAt.ext E13
    replace F_b10_arrivedAt := F_b10_arrivedAt.ext E13
    replace F_b10_trip := F_b10_trip.ext E13
    replace F_b10_id := F_b10_id.ext E13
    replace F_b10_maxSpeed := F_b10_maxSpeed.ext E13
    replace F_b10_route := F_b10_route.ext E13
    replace F_b10_link := F_b10_link.ext E13
    replace F_b10_nextLink := F_b10_nextLink.ext E13
    replace F_b10_pos := F_b10_pos.ext E13
    replace E_b11 := E_b11.ext E13
    replace V_b11 := V_b11.ext E13
    replace E_b9_12 := E_b9_12.ext E13
    replace V_b9_12 := V_b9_12.ext E13
    replace Z0 := Nat.le_trans Z0 E13.1
    replace hk := Nat.le_trans hk E13.1
    have F_b13_departedAt : Fld Z h13 b13 "com/example/phlow/phlow/engine/Vehicle" "departedAt" "D" (.double (0 : UInt64)) := D13 (Or.inl (hw _ (List.mem_of_getElem? (i := 42) rfl))) (ty := .double) (by decide)
    have F_b13_arrivedAt : Fld Z h13 b13 "com/example/phlow/phlow/engine/Vehicle" "arrivedAt" "D" (.double (0 : UInt64)) := D13 (Or.inl (hw _ (List.mem_of_getElem? (i := 44) rfl))) (ty := .double) (by decide)
    have F_b13_trip : Fld Z h13 b13 "com/example/phlow/phlow/engine/Vehicle" "trip" "Lcom/example/phlow/phlow/demand/Trip;" .null := D13 (Or.inr (hw _ (List.mem_of_getElem? (i := 46) rfl))) (ty := (.object "com/example/phlow/phlow/demand/Trip")) (by decide)
    have F_b13_id : Fld Z h13 b13 "com/example/phlow/phlow/engine/Vehicle" "id" "Ljava/lang/String;" .null := D13 (Or.inr (hw _ (List.mem_of_getElem? (i := 53) rfl))) (ty := (.object "java/lang/String")) (by decide)
    have F_b13_maxSpeed : Fld Z h13 b13 "com/example/phlow/phlow/engine/Vehicle" "maxSpeed" "D" (.double (0 : UInt64)) := D13 (Or.inr (hw _ (List.mem_of_getElem? (i := 60) rfl))) (ty := .double) (by decide)
    have F_b13_route : Fld Z h13 b13 "com/example/phlow/phlow/engine/Vehicle" "route" "[I" .null := D13 (Or.inr (hw _ (List.mem_of_getElem? (i := 71) rfl))) (ty := (.array .int)) (by decide)
    have F_b13_link : Fld Z h13 b13 "com/example/phlow/phlow/engine/Vehicle" "link" "I" (.int (0 : Int32)) := D13 (Or.inl (hw _ (List.mem_of_getElem? (i := 73) rfl))) (ty := .int) (by decide)
    have F_b13_nextLink : Fld Z h13 b13 "com/example/phlow/phlow/engine/Vehicle" "nextLink" "I" (.int (0 : Int32)) := D13 (Or.inl (hw _ (List.mem_of_getElem? (i := 75) rfl))) (ty := .int) (by decide)
    have F_b13_pos : Fld Z h13 b13 "com/example/phlow/phlow/engine/Vehicle" "pos" "D" (.double (0 : UInt64)) := D13 (Or.inl (hw _ (List.mem_of_getElem? (i := 118) rfl))) (ty := .double) (by decide)
    refine own_dup X13 hx hby rfl at_75 (pc' := 76) rfl ?_
    refine own_aload X13 hx hby rfl rfl at_76 (pc' := 78) rfl ?_
    refine own_iconst X13 hx hby (v := (0 : Int32)) (by decide) at_78 (pc' := 79) rfl ?_
    refine own_newP X13 hx hby hZ (hw _ (List.mem_of_getElem? (i := 35) rfl)) eH13 at_79 (pc' := 81) rfl (by decide) (N := 0) (by decide) (cap := 0) (by decide) (by decide) (by decide) (by decide) (ad := "[I") (by decide) (fun T14 h14 b14 X14 eH14 E14 g14 E_b14 V_b14 => ?_)
    have g_b14 : n0 ≤ b14 := g14 ▸ Z0
    have ne_b7_b14 : b7 ≠ b14 := Nat.ne_of_lt (g14 ▸ E_b7.lt)
    have ne_b10_b14 : b10 ≠ b14 := Nat.ne_of_lt (g14 ▸ E_b10.lt)
    have ne_b11_b14 : b11 ≠ b14 := Nat.ne_of_lt (g14 ▸ E_b11.lt)
    have ne_b9_12_b14 : b9_12 ≠ b14 := Nat.ne_of_lt (g14 ▸ E_b9_12.lt)
    have ne_b13_b14 : b13 ≠ b14 := Nat.ne_of_lt (g14 ▸ E_b13.lt)
    replace E_b7 := E_b7.ext E14
    replace F_b7_vehicle := F_b7_vehicle.ext E14
    replace F_b7_from := F_b7_from.ext E14
    replace F_b7_to := F_b7_to.ext E14
    replace F_b7_depart := F_b7_depart.ext E14
    replace F_b7_maxSpeed := F_b7_maxSpeed.ext E14
    replace E_b10 := E_b10.ext E14
    replace F_b10_departedAt := F_b10_departedAt.ext E14
    replace F_b10_arrivedAt := F_b10_arrivedAt.ext E14
    replace F_b10_trip := F_b10_trip.ext E14
    replace F_b10_id := F_b10_id.ext E14
    replace F_b10_maxSpeed := F_b10_maxSpeed.ext E14
    replace F_b10_route := F_b10_route.ext E14
    replace F_b10_link := F_b10_link.ext E14
    replace F_b10_nextLink := F_b10_nextLink.ext E14
    replace F_b10_pos := F_b10_pos.ext E14
    replace E_b11 := E_b11.ext E14
    replace V_b11 := V_b11.ext E14
    replace E_b9_12 := E_b9_12.ext E14
    replace V_b9_12 := V_b9_12.ext E14
    replace E_b13 := E_b13.ext E14
    replace F_b13_departedAt := F_b13_departedAt.ext E14
    replace F_b13_arrivedAt := F_b13_arrivedAt.ext E14
    replace F_b13_trip := F_b13_trip.ext E14
    replace F_b13_id := F_b13_id.ext E14
    replace F_b13_maxSpeed := F_b13_maxSpeed.ext E14
    replace F_b13_route := F_b13_route.ext E14
    replace F_b13_link := F_b13_link.ext E14
    replace F_b13_nextLink := F_b13_nextLink.ext E14
    replace F_b13_pos := F_b13_pos.ext E14
    replace Z0 := Nat.le_trans Z0 E14.1
    replace hk := Nat.le_trans hk E14.1
    have V_b14 : Ary tr Z h14 b14 .int [] := V_b14
    refine own_special X14 hx hby hZ (y := (⟨"com/example/phlow/phlow/engine/Vehicle", "<init>", "(Lcom/example/phlow/phlow/demand/Trip;[I)V"⟩ : MethodName)) (rest := [(.ref b13)]) rfl hown (hw _ (List.mem_of_getElem? (i := 36) rfl)) (hw _ (List.mem_of_getElem? (i := 37) rfl)) rfl (hw _ (List.mem_of_getElem? (i := 38) rfl)) (hw _ (List.mem_of_getElem? (i := 34) rfl)) (by decide) (rm4 l Z a0 hw [] b13 b7 b14 (0 : UInt64) (0 : UInt64) .null .null (0 : UInt64) .null (0 : Int32) (0 : Int32) (0 : UInt64) sv8 (9218868437227405312 : UInt64) h14 n0 Z0 F_b13_departedAt F_b13_arrivedAt F_b13_trip F_b13_id F_b13_maxSpeed F_b13_route F_b13_link F_b13_nextLink F_b13_pos V_b14 F_b7_vehicle E_b7 F_b7_maxSpeed E_b14 E_b13 g_b13 ne_b7_b13 (Ne.symm ne_b13_b14)) eH14 (by rw [hml]; rfl) (a := b13) (argsL := [(.ref b7), (.ref b14)]) rfl (lenOf pd_4 rfl) rfl at_81 (pc' := 84) rfl (by decide) (W := 1) (Nat.le_of_eq rfl) (by decide) (by decide) (by decide) (fun T15 h15 Lc15 v15r X15 eH15 hQ15 => ?_)
    obtain ⟨b9_15, rfl, Nq15, Kq15, gq15_0, gq15_1, gq15_2, gq15_3, gq15_4, gq15_5, gq15_6, gq15_7, gq15_8, gq15_9, gq15_10, gq15_11, gq15_12⟩ := hQ15
    have N15 := Fr.app N12 Nq15
    have g_b9_15 : n0 ≤ b9_15 := Nat.le_trans Z0 gq15_0
    have ne_b7_b9_15 : b7 ≠ b9_15 := Nat.ne_of_lt (Nat.lt_of_lt_of_le E_b7.lt gq15_0)
    have ne_b10_b9_15 : b10 ≠ b9_15 := Nat.ne_of_lt (Nat.lt_of_lt_of_le E_b10.lt gq15_0)
    have ne_b11_b9_15 : b11 ≠ b9_15 := Nat.ne_of_lt (Nat.lt_of_lt_of_le E_b11.lt gq15_0)
    have ne_b9_12_b9_15 : b9_12 ≠ b9_15 := Nat.ne_of_lt (Nat.lt_of_lt_of_le E_b9_12.lt gq15_0)
    have ne_b13_b9_15 : b13 ≠ b9_15 := Nat.ne_of_lt (Nat.lt_of_lt_of_le E_b13.lt gq15_0)
    have ne_b14_b9_15 : b14 ≠ b9_15 := Nat.ne_of_lt (Nat.lt_of_lt_of_le E_b14.lt gq15_0)
    replace E_b7 := E_b7.keep Kq15
    replace F_b7_vehicle := F_b7_vehicle.keep Kq15 (ninS ne_b7_b13 nin0)
    replace F_b7_from := F_b7_from.keep Kq15 (ninS ne_b7_b13 nin0)
    replace F_b7_to := F_b7_to.keep Kq15 (ninS ne_b7_b13 nin0)
    replace F_b7_depart := F_b7_depart.keep Kq15 (ninS ne_b7_b13 nin0)
    replace F_b7_maxSpeed := F_b7_maxSpeed.keep Kq15 (ninS ne_b7_b13 nin0)
    replace E_b10 := E_b10.keep Kq15
    replace F_b10_departedAt := F_b10_departedAt.keep Kq15 (ninS ne_b10_b13 nin0)
    replace F_b10_arrivedAt := F_b10_arrivedAt.keep Kq15 (ninS ne_b10_b13 nin0)
    replace F_b10_trip := F_b10_trip.keep Kq15 (ninS ne_b10_b13 nin0)
    replace F_b10_id := F_b10_id.keep Kq15 (ninS ne_b10_b13 nin0)
    replace F_b10_maxSpeed := F_b10_maxSpeed.keep Kq15 (ninS ne_b10_b13 nin0)
    replace F_b10_route := F_b10_route.keep Kq15 (ninS ne_b10_b13 nin0)
    replace F_b10_link := F_b10_link.keep Kq15 (ninS ne_b10_b13 nin0)
    replace F_b10_nextLink := F_b10_nextLink.keep Kq15 (ninS ne_b10_b13 nin0)
    replace F_b10_pos := F_b10_pos.keep Kq15 (ninS ne_b10_b13 nin0)
    replace E_b11 := E_b11.keep Kq15
    replace V_b11 := V_b11.keep Kq15 (ninS ne_b11_b13 nin0)
    replace E_b9_12 := E_b9_12.keep Kq15
    replace V_b9_12 := V_b9_12.keep Kq15 (ninS ne_b9_12_b13 nin0)
    replace E_b13 := E_b13.keep Kq15
    replace E_b14 := E_b14.keep Kq15
    replace V_b14 := V_b14.keep Kq15 (ninS (Ne.symm ne_b13_b14) nin0)
    have E_b13 := gq15_1
    have F_b13_departedAt := gq15_2
    have F_b13_arrivedAt := gq15_3
    have F_b13_trip := gq15_4
    have F_b13_id := gq15_5
    have F_b13_maxSpeed := gq15_6
    have F_b13_route := gq15_7
    have F_b13_link := gq15_8
    have F_b13_nextLink := gq15_9
    have F_b13_pos := gq15_10
    have E_b9_15 := gq15_11
    have V_b9_15 := gq15_12
    replace Z0 := Nat.le_trans Z0 Kq15.1
    replace hk := Nat.le_trans hk Kq15.1
    as_aux_lemma =>
      refine own_astore X15 hx hby rfl (L' := #[.val (.int p0), .val (.int p1), .val (.int p2), .val (.int p3), .val (.int p4), .val (.int p5), .val (.int n1), .val (.int n3), .val (.int n4), .val (.int n5), .val (.int n6), .val (.ref b7), .val (.ref b10), .val (.ref b13), .unset, .unset, .unset, .unset]) rfl at_84 (pc' := 86) rfl ?_
      refine own_newO X15 hx hby hZ hown (hw _ (List.mem_of_getElem? (i := 32) rfl)) (hw _ (List.mem_of_getElem? (i := 33) rfl)) (hw _ (List.mem_of_getElem? (i := 34) rfl)) eH15 at_86 (pc' := 89) rfl (by decide) (by decide) (fun T16 h16 b16 X16 eH16 E16 g16 E_b16 D16 => ?_)
      have g_b16 : n0 ≤ b16 := g16 ▸ Z0
      have ne_b7_b16 : b7 ≠ b16 := Nat.ne_of_lt (g16 ▸ E_b7.lt)
      have ne_b10_b16 : b10 ≠ b16 := Nat.ne_of_lt (g16 ▸ E_b10.lt)
      have ne_b11_b16 : b11 ≠ b16 := Nat.ne_of_lt (g16 ▸ E_b11.lt)
      have ne_b9_12_b16 : b9_12 ≠ b16 := Nat.ne_of_lt (g16 ▸ E_b9_12.lt)
      have ne_b13_b16 : b13 ≠ b16 := Nat.ne_of_lt (g16 ▸ E_b13.lt)
      have ne_b14_b16 : b14 ≠ b16 := Nat.ne_of_lt (g16 ▸ E_b14.lt)
      have ne_b9_15_b16 : b9_15 ≠ b16 := Nat.ne_of_lt (g16 ▸ E_b9_15.lt)
      replace E_b7 := E_b7.ext E16
      replace F_b7_vehicle := F_b7_vehicle.ext E16
      replace F_b7_from := F_b7_from.ext E16
      replace F_b7_to := F_b7_to.ext E16
      replace F_b7_depart := F_b7_depart.ext E16
      replace F_b7_maxSpeed := F_b7_maxSpeed.ext E16
      replace E_b10 := E_b10.ext E16
      replace F_b10_departedAt := F_b10_departedAt.ext E16
      replace F_b10_arrivedAt := F_b10_arrivedAt.ext E16
      replace F_b10_trip := F_b10_trip.ext E16
      replace F_b10_id := F_b10_id.ext E16
      replace F_b10_maxSpeed := F_b10_maxSpeed.ext E16
      replace F_b10_route := F_b10_route.ext E16
      replace F_b10_link := F_b10_link.ext E16
      replace F_b10_nextLink := F_b10_nextLink.ext E16
      replace F_b10_pos := F_b10_pos.ext E16
      replace E_b11 := E_b11.ext E16
      replace V_b11 := V_b11.ext E16
      replace E_b9_12 := E_b9_12.ext E16
      replace V_b9_12 := V_b9_12.ext E16
      replace E_b13 := E_b13.ext E16
      replace F_b13_departedAt := F_b13_departedAt.ext E16
      replace F_b13_arrivedAt := F_b13_arrivedAt.ext E16
      replace F_b13_trip := F_b13_trip.ext E16
      replace F_b13_id := F_b13_id.ext E16
      replace F_b13_maxSpeed := F_b13_maxSpeed.ext E16
      replace F_b13_route := F_b13_route.ext E16
      replace F_b13_link := F_b13_link.ext E16
      replace F_b13_nextLink := F_b13_nextLink.ext E16
      replace F_b13_pos := F_b13_pos.ext E16
      replace E_b14 := E_b14.ext E16
      replace V_b14 := V_b14.ext E16
      replace E_b9_15 := E_b9_15.ext E16
      replace V_b9_15 := V_b9_15.ext E16
      replace Z0 := Nat.le_trans Z0 E16.1
      replace hk := Nat.le_trans hk E16.1
      have F_b16_departedAt : Fld Z h16 b16 "com/example/phlow/phlow/engine/Vehicle" "departedAt" "D" (.double (0 : UInt64)) := D16 (Or.inl (hw _ (List.mem_of_getElem? (i := 42) rfl))) (ty := .double) (by decide)
      have F_b16_arrivedAt : Fld Z h16 b16 "com/example/phlow/phlow/engine/Vehicle" "arrivedAt" "D" (.double (0 : UInt64)) := D16 (Or.inl (hw _ (List.mem_of_getElem? (i := 44) rfl))) (ty := .double) (by decide)
      have F_b16_trip : Fld Z h16 b16 "com/example/phlow/phlow/engine/Vehicle" "trip" "Lcom/example/phlow/phlow/demand/Trip;" .null := D16 (Or.inr (hw _ (List.mem_of_getElem? (i := 46) rfl))) (ty := (.object "com/example/phlow/phlow/demand/Trip")) (by decide)
      have F_b16_id : Fld Z h16 b16 "com/example/phlow/phlow/engine/Vehicle" "id" "Ljava/lang/String;" .null := D16 (Or.inr (hw _ (List.mem_of_getElem? (i := 53) rfl))) (ty := (.object "java/lang/String")) (by decide)
      have F_b16_maxSpeed : Fld Z h16 b16 "com/example/phlow/phlow/engine/Vehicle" "maxSpeed" "D" (.double (0 : UInt64)) := D16 (Or.inr (hw _ (List.mem_of_getElem? (i := 60) rfl))) (ty := .double) (by decide)
      have F_b16_route : Fld Z h16 b16 "com/example/phlow/phlow/engine/Vehicle" "route" "[I" .null := D16 (Or.inr (hw _ (List.mem_of_getElem? (i := 71) rfl))) (ty := (.array .int)) (by decide)
      have F_b16_link : Fld Z h16 b16 "com/example/phlow/phlow/engine/Vehicle" "link" "I" (.int (0 : Int32)) := D16 (Or.inl (hw _ (List.mem_of_getElem? (i := 73) rfl))) (ty := .int) (by decide)
      have F_b16_nextLink : Fld Z h16 b16 "com/example/phlow/phlow/engine/Vehicle" "nextLink" "I" (.int (0 : Int32)) := D16 (Or.inl (hw _ (List.mem_of_getElem? (i := 75) rfl))) (ty := .int) (by decide)
      have F_b16_pos : Fld Z h16 b16 "com/example/phlow/phlow/engine/Vehicle" "pos" "D" (.double (0 : UInt64)) := D16 (Or.inl (hw _ (List.mem_of_getElem? (i := 118) rfl))) (ty := .double) (by decide)
      refine own_dup X16 hx hby rfl at_89 (pc' := 90) rfl ?_
      refine own_aload X16 hx hby rfl rfl at_90 (pc' := 92) rfl ?_
      refine own_iconst X16 hx hby (v := (0 : Int32)) (by decide) at_92 (pc' := 93) rfl ?_
      refine own_newP X16 hx hby hZ (hw _ (List.mem_of_getElem? (i := 35) rfl)) eH16 at_93 (pc' := 95) rfl (by decide) (N := 0) (by decide) (cap := 0) (by decide) (by decide) (by decide) (by decide) (ad := "[I") (by decide) (fun T17 h17 b17 X17 eH17 E17 g17 E_b17 V_b17 => ?_)
      have g_b17 : n0 ≤ b17 := g17 ▸ Z0
      have ne_b7_b17 : b7 ≠ b17 := Nat.ne_of_lt (g17 ▸ E_b7.lt)
      have ne_b10_b17 : b10 ≠ b17 := Nat.ne_of_lt (g17 ▸ E_b10.lt)
      have ne_b11_b17 : b11 ≠ b17 := Nat.ne_of_lt (g17 ▸ E_b11.lt)
      have ne_b9_12_b17 : b9_12 ≠ b17 := Nat.ne_of_lt (g17 ▸ E_b9_12.lt)
      have ne_b13_b17 : b13 ≠ b17 := Nat.ne_of_lt (g17 ▸ E_b13.lt)
      have ne_b14_b17 : b14 ≠ b17 := Nat.ne_of_lt (g17 ▸ E_b14.lt)
      have ne_b9_15_b17 : b9_15 ≠ b17 := Nat.ne_of_lt (g17 ▸ E_b9_15.lt)
      have ne_b16_b17 : b16 ≠ b17 := Nat.ne_of_lt (g17 ▸ E_b16.lt)
      replace E_b7 := E_b7.ext E17
      replace F_b7_vehicle := F_b7_vehicle.ext E17
      replace F_b7_from := F_b7_from.ext E17
      replace F_b7_to := F_b7_to.ext E17
      replace F_b7_depart := F_b7_depart.ext E17
      replace F_b7_maxSpeed := F_b7_maxSpeed.ext E17
      replace E_b10 := E_b10.ext E17
      replace F_b10_departedAt := F_b10_departedAt.ext E17
      replace F_b10_arrivedAt := F_b10_arrivedAt.ext E17
      replace F_b10_trip := F_b10_trip.ext E17
      replace F_b10_id := F_b10_id.ext E17
      replace F_b10_maxSpeed := F_b10_maxSpeed.ext E17
      replace F_b10_route := F_b10_route.ext E17
      replace F_b10_link := F_b10_link.ext E17
      replace F_b10_nextLink := F_b10_nextLink.ext E17
      replace F_b10_pos := F_b10_pos.ext E17
      replace E_b11 := E_b11.ext E17
      replace V_b11 := V_b11.ext E17
      replace E_b9_12 := E_b9_12.ext E17
      replace V_b9_12 := V_b9_12.ext E17
      replace E_b13 := E_b13.ext E17
      replace F_b13_departedAt := F_b13_departedAt.ext E17
      replace F_b13_arrivedAt := F_b13_arrivedAt.ext E17
      replace F_b13_trip := F_b13_trip.ext E17
      replace F_b13_id := F_b13_id.ext E17
      replace F_b13_maxSpeed := F_b13_maxSpeed.ext E17
      replace F_b13_route := F_b13_route.ext E17
      replace F_b13_link := F_b13_link.ext E17
      replace F_b13_nextLink := F_b13_nextLink.ext E17
      replace F_b13_pos := F_b13_pos.ext E17
      replace E_b14 := E_b14.ext E17
      replace V_b14 := V_b14.ext E17
      replace E_b9_15 := E_b9_15.ext E17
      replace V_b9_15 := V_b9_15.ext E17
      replace E_b16 := E_b16.ext E17
      replace F_b16_departedAt := F_b16_departedAt.ext E17
      replace F_b16_arrivedAt := F_b16_arrivedAt.ext E17
      replace F_b16_trip := F_b16_trip.ext E17
      replace F_b16_id := F_b16_id.ext E17
      replace F_b16_maxSpeed := F_b16_maxSpeed.ext E17
      replace F_b16_route := F_b16_route.ext E17
      replace F_b16_link := F_b16_link.ext E17
      replace F_b16_nextLink := F_b16_nextLink.ext E17
      replace F_b16_pos := F_b16_pos.ext E17
      replace Z0 := Nat.le_trans Z0 E17.1
      replace hk := Nat.le_trans hk E17.1
      have V_b17 : Ary tr Z h17 b17 .int [] := V_b17
      refine own_special X17 hx hby hZ (y := (⟨"com/example/phlow/phlow/engine/Vehicle", "<init>", "(Lcom/example/phlow/phlow/demand/Trip;[I)V"⟩ : MethodName)) (rest := [(.ref b16)]) rfl hown (hw _ (List.mem_of_getElem? (i := 36) rfl)) (hw _ (List.mem_of_getElem? (i := 37) rfl)) rfl (hw _ (List.mem_of_getElem? (i := 38) rfl)) (hw _ (List.mem_of_getElem? (i := 34) rfl)) (by decide) (rm4 l Z a0 hw [] b16 b7 b17 (0 : UInt64) (0 : UInt64) .null .null (0 : UInt64) .null (0 : Int32) (0 : Int32) (0 : UInt64) sv8 (9218868437227405312 : UInt64) h17 n0 Z0 F_b16_departedAt F_b16_arrivedAt F_b16_trip F_b16_id F_b16_maxSpeed F_b16_route F_b16_link F_b16_nextLink F_b16_pos V_b17 F_b7_vehicle E_b7 F_b7_maxSpeed E_b17 E_b16 g_b16 ne_b7_b16 (Ne.symm ne_b16_b17)) eH17 (by rw [hml]; rfl) (a := b16) (argsL := [(.ref b7), (.ref b17)]) rfl (lenOf pd_4 rfl) rfl at_95 (pc' := 98) rfl (by decide) (W := 1) (Nat.le_of_eq rfl) (by decide) (by decide) (by decide) (fun T18 h18 Lc18 v18r X18 eH18 hQ18 => ?_)
      obtain ⟨b9_18, rfl, Nq18, Kq18, gq18_0, gq18_1, gq18_2, gq18_3, gq18_4, gq18_5, gq18_6, gq18_7, gq18_8, gq18_9, gq18_10, gq18_11, gq18_12⟩ := hQ18
      have N18 := Fr.app N15 Nq18
      have g_b9_18 : n0 ≤ b9_18 := Nat.le_trans Z0 gq18_0
      have ne_b7_b9_18 : b7 ≠ b9_18 := Nat.ne_of_lt (Nat.lt_of_lt_of_le E_b7.lt gq18_0)
      have ne_b10_b9_18 : b10 ≠ b9_18 := Nat.ne_of_lt (Nat.lt_of_lt_of_le E_b10.lt gq18_0)
      have ne_b11_b9_18 : b11 ≠ b9_18 := Nat.ne_of_lt (Nat.lt_of_lt_of_le E_b11.lt gq18_0)
      have ne_b9_12_b9_18 : b9_12 ≠ b9_18 := Nat.ne_of_lt (Nat.lt_of_lt_of_le E_b9_12.lt gq18_0)
      have ne_b13_b9_18 : b13 ≠ b9_18 := Nat.ne_of_lt (Nat.lt_of_lt_of_le E_b13.lt gq18_0)
      have ne_b14_b9_18 : b14 ≠ b9_18 := Nat.ne_of_lt (Nat.lt_of_lt_of_le E_b14.lt gq18_0)
      have ne_b9_15_b9_18 : b9_15 ≠ b9_18 := Nat.ne_of_lt (Nat.lt_of_lt_of_le E_b9_15.lt gq18_0)
      have ne_b16_b9_18 : b16 ≠ b9_18 := Nat.ne_of_lt (Nat.lt_of_lt_of_le E_b16.lt gq18_0)
      have ne_b17_b9_18 : b17 ≠ b9_18 := Nat.ne_of_lt (Nat.lt_of_lt_of_le E_b17.lt gq18_0)
      replace E_b7 := E_b7.keep Kq18
      replace F_b7_vehicle := F_b7_vehicle.keep Kq18 (ninS ne_b7_b16 nin0)
      replace F_b7_from := F_b7_from.keep Kq18 (ninS ne_b7_b16 nin0)
      replace F_b7_to := F_b7_to.keep Kq18 (ninS ne_b7_b16 nin0)
      replace F_b7_depart := F_b7_depart.keep Kq18 (ninS ne_b7_b16 nin0)
      replace F_b7_maxSpeed := F_b7_maxSpeed.keep Kq18 (ninS ne_b7_b16 nin0)
      replace E_b10 := E_b10.keep Kq18
      replace F_b10_departedAt := F_b10_departedAt.keep Kq18 (ninS ne_b10_b16 nin0)
      replace F_b10_arrivedAt := F_b10_arrivedAt.keep Kq18 (ninS ne_b10_b16 nin0)
      replace F_b10_trip := F_b10_trip.keep Kq18 (ninS ne_b10_b16 nin0)
      replace F_b10_id := F_b10_id.keep Kq18 (ninS ne_b10_b16 nin0)
      replace F_b10_maxSpeed := F_b10_maxSpeed.keep Kq18 (ninS ne_b10_b16 nin0)
      replace F_b10_route := F_b10_route.keep Kq18 (ninS ne_b10_b16 nin0)
      replace F_b10_link := F_b10_link.keep Kq18 (ninS ne_b10_b16 nin0)
      replace F_b10_nextLink := F_b10_nextLink.keep Kq18 (ninS ne_b10_b16 nin0)
      replace F_b10_pos := F_b10_pos.keep Kq18 (ninS ne_b10_b16 nin0)
      replace E_b11 := E_b11.keep Kq18
      replace V_b11 := V_b11.keep Kq18 (ninS ne_b11_b16 nin0)
      replace E_b9_12 := E_b9_12.keep Kq18
      replace V_b9_12 := V_b9_12.keep Kq18 (ninS ne_b9_12_b16 nin0)
      replace E_b13 := E_b13.keep Kq18
      replace F_b13_departedAt := F_b13_departedAt.keep Kq18 (ninS ne_b13_b16 nin0)
      replace F_b13_arrivedAt := F_b13_arrivedAt.keep Kq18 (ninS ne_b13_b16 nin0)
      replace F_b13_trip := F_b13_trip.keep Kq18 (ninS ne_b13_b16 nin0)
      replace F_b13_id := F_b13_id.keep Kq18 (ninS ne_b13_b16 nin0)
      replace F_b13_maxSpeed := F_b13_maxSpeed.keep Kq18 (ninS ne_b13_b16 nin0)
      replace F_b13_route := F_b13_route.keep Kq18 (ninS ne_b13_b16 nin0)
      replace F_b13_link := F_b13_link.keep Kq18 (ninS ne_b13_b16 nin0)
      replace F_b13_nextLink := F_b13_nextLink.keep Kq18 (ninS ne_b13_b16 nin0)
      replace F_b13_pos := F_b13_pos.keep Kq18 (ninS ne_b13_b16 nin0)
      replace E_b14 := E_b14.keep Kq18
      replace V_b14 := V_b14.keep Kq18 (ninS ne_b14_b16 nin0)
      replace E_b9_15 := E_b9_15.keep Kq18
      replace V_b9_15 := V_b9_15.keep Kq18 (ninS ne_b9_15_b16 nin0)
      replace E_b16 := E_b16.keep Kq18
      replace E_b17 := E_b17.keep Kq18
      replace V_b17 := V_b17.keep Kq18 (ninS (Ne.symm ne_b16_b17) nin0)
      have E_b16 := gq18_1
      have F_b16_departedAt := gq18_2
      have F_b16_arrivedAt := gq18_3
      have F_b16_trip := gq18_4
      have F_b16_id := gq18_5
      have F_b16_maxSpeed := gq18_6
      have F_b16_route := gq18_7
      have F_b16_link := gq18_8
      have F_b16_nextLink := gq18_9
      have F_b16_pos := gq18_10
      have E_b9_18 := gq18_11
      have V_b9_18 := gq18_12
      replace Z0 := Nat.le_trans Z0 Kq18.1
      replace hk := Nat.le_trans hk Kq18.1
      as_aux_lemma =>
        refine own_astore X18 hx hby rfl (L' := #[.val (.int p0), .val (.int p1), .val (.int p2), .val (.int p3), .val (.int p4), .val (.int p5), .val (.int n1), .val (.int n3), .val (.int n4), .val (.int n5), .val (.int n6), .val (.ref b7), .val (.ref b10), .val (.ref b13), .val (.ref b16), .unset, .unset, .unset]) rfl at_98 (pc' := 100) rfl ?_
        refine own_newO X18 hx hby hZ hown (hw _ (List.mem_of_getElem? (i := 76) rfl)) (hw _ (List.mem_of_getElem? (i := 77) rfl)) (hw _ (List.mem_of_getElem? (i := 78) rfl)) eH18 at_100 (pc' := 103) rfl (by decide) (by decide) (fun T19 h19 b19 X19 eH19 E19 g19 E_b19 D19 => ?_)
        have g_b19 : n0 ≤ b19 := g19 ▸ Z0
        have ne_b7_b19 : b7 ≠ b19 := Nat.ne_of_lt (g19 ▸ E_b7.lt)
        have ne_b10_b19 : b10 ≠ b19 := Nat.ne_of_lt (g19 ▸ E_b10.lt)
        have ne_b11_b19 : b11 ≠ b19 := Nat.ne_of_lt (g19 ▸ E_b11.lt)
        have ne_b9_12_b19 : b9_12 ≠ b19 := Nat.ne_of_lt (g19 ▸ E_b9_12.lt)
        have ne_b13_b19 : b13 ≠ b19 := Nat.ne_of_lt (g19 ▸ E_b13.lt)
        have ne_b14_b19 : b14 ≠ b19 := Nat.ne_of_lt (g19 ▸ E_b14.lt)
        have ne_b9_15_b19 : b9_15 ≠ b19 := Nat.ne_of_lt (g19 ▸ E_b9_15.lt)
        have ne_b16_b19 : b16 ≠ b19 := Nat.ne_of_lt (g19 ▸ E_b16.lt)
        have ne_b17_b19 : b17 ≠ b19 := Nat.ne_of_lt (g19 ▸ E_b17.lt)
        have ne_b9_18_b19 : b9_18 ≠ b19 := Nat.ne_of_lt (g19 ▸ E_b9_18.lt)
        replace E_b7 := E_b7.ext E19
        replace F_b7_vehicle := F_b7_vehicle.ext E19
        replace F_b7_from := F_b7_from.ext E19
        replace F_b7_to := F_b7_to.ext E19
        replace F_b7_depart := F_b7_depart.ext E19
        replace F_b7_maxSpeed := F_b7_maxSpeed.ext E19
        replace E_b10 := E_b10.ext E19
        replace F_b10_departedAt := F_b10_departedAt.ext E19
        replace F_b10_arrivedAt := F_b10_arrivedAt.ext E19
        replace F_b10_trip := F_b10_trip.ext E19
        replace F_b10_id := F_b10_id.ext E19
        replace F_b10_maxSpeed := F_b10_maxSpeed.ext E19
        replace F_b10_route := F_b10_route.ext E19
        replace F_b10_link := F_b10_link.ext E19
        replace F_b10_nextLink := F_b10_nextLink.ext E19
        replace F_b10_pos := F_b10_pos.ext E19
        replace E_b11 := E_b11.ext E19
        replace V_b11 := V_b11.ext E19
        replace E_b9_12 := E_b9_12.ext E19
        replace V_b9_12 := V_b9_12.ext E19
        replace E_b13 := E_b13.ext E19
        replace F_b13_departedAt := F_b13_departedAt.ext E19
        replace F_b13_arrivedAt := F_b13_arrivedAt.ext E19
        replace F_b13_trip := F_b13_trip.ext E19
        replace F_b13_id := F_b13_id.ext E19
        replace F_b13_maxSpeed := F_b13_maxSpeed.ext E19
        replace F_b13_route := F_b13_route.ext E19
        replace F_b13_link := F_b13_link.ext E19
        replace F_b13_nextLink := F_b13_nextLink.ext E19
        replace F_b13_pos := F_b13_pos.ext E19
        replace E_b14 := E_b14.ext E19
        replace V_b14 := V_b14.ext E19
        replace E_b9_15 := E_b9_15.ext E19
        replace V_b9_15 := V_b9_15.ext E19
        replace E_b16 := E_b16.ext E19
        replace F_b16_departedAt := F_b16_departedAt.ext E19
        replace F_b16_arrivedAt := F_b16_arrivedAt.ext E19
        replace F_b16_trip := F_b16_trip.ext E19
        replace F_b16_id := F_b16_id.ext E19
        replace F_b16_maxSpeed := F_b16_maxSpeed.ext E19
        replace F_b16_route := F_b16_route.ext E19
        replace F_b16_link := F_b16_link.ext E19
        replace F_b16_nextLink := F_b16_nextLink.ext E19
        replace F_b16_pos := F_b16_pos.ext E19
        replace E_b17 := E_b17.ext E19
        replace V_b17 := V_b17.ext E19
        replace E_b9_18 := E_b9_18.ext E19
        replace V_b9_18 := V_b9_18.ext E19
        replace Z0 := Nat.le_trans Z0 E19.1
        replace hk := Nat.le_trans hk E19.1
        have F_b19_vehicles : Fld Z h19 b19 "com/example/phlow/phlow/engine/Lane" "vehicles" "[Lcom/example/phlow/phlow/engine/Vehicle;" .null := D19 (Or.inl (hw _ (List.mem_of_getElem? (i := 86) rfl))) (ty := (.array (.object "com/example/phlow/phlow/engine/Vehicle"))) (by decide)
        have F_b19_link : Fld Z h19 b19 "com/example/phlow/phlow/engine/Lane" "link" "I" (.int (0 : Int32)) := D19 (Or.inr (hw _ (List.mem_of_getElem? (i := 88) rfl))) (ty := .int) (by decide)
        have F_b19_part : Fld Z h19 b19 "com/example/phlow/phlow/engine/Lane" "part" "I" (.int (0 : Int32)) := D19 (Or.inr (hw _ (List.mem_of_getElem? (i := 90) rfl))) (ty := .int) (by decide)
        have F_b19_size : Fld Z h19 b19 "com/example/phlow/phlow/engine/Lane" "size" "I" (.int (0 : Int32)) := D19 (Or.inl (hw _ (List.mem_of_getElem? (i := 101) rfl))) (ty := .int) (by decide)
        refine own_dup X19 hx hby rfl at_103 (pc' := 104) rfl ?_
        refine own_iload X19 hx hby rfl at_104 (pc' := 106) rfl ?_
        refine own_iload X19 hx hby rfl at_106 (pc' := 108) rfl ?_
        refine own_iloadN X19 hx hby rfl at_108 (pc' := 109) rfl ?_
        refine own_ixor X19 hx hby rfl at_109 (pc' := 110) rfl ?_
        refine own_special X19 hx hby hZ (y := (⟨"com/example/phlow/phlow/engine/Lane", "<init>", "(II)V"⟩ : MethodName)) (rest := [(.ref b19)]) rfl hown (hw _ (List.mem_of_getElem? (i := 79) rfl)) (hw _ (List.mem_of_getElem? (i := 80) rfl)) rfl (hw _ (List.mem_of_getElem? (i := 81) rfl)) (hw _ (List.mem_of_getElem? (i := 78) rfl)) (by decide) (rm7 l Z a0 hw [] b19 p5 (p5 ^^^ p0) .null (0 : Int32) (0 : Int32) (0 : Int32) h19 n0 Z0 F_b19_vehicles F_b19_link F_b19_part F_b19_size E_b19 g_b19) eH19 (by rw [hml]; rfl) (a := b19) (argsL := [(.int p5), (.int (p5 ^^^ p0))]) rfl (lenOf pd_5 rfl) rfl at_110 (pc' := 113) rfl (by decide) (W := 1) (Nat.le_of_eq rfl) (by decide) (by decide) (by decide) (fun T20 h20 Lc20 v20r X20 eH20 hQ20 => ?_)
        obtain ⟨b2_20, rfl, Nq20, Kq20, gq20_0, gq20_1, gq20_2, gq20_3, gq20_4, gq20_5, gq20_6, gq20_7⟩ := hQ20
        have N20 := Fr.app N18 Nq20
        have g_b2_20 : n0 ≤ b2_20 := Nat.le_trans Z0 gq20_0
        have ne_b7_b2_20 : b7 ≠ b2_20 := Nat.ne_of_lt (Nat.lt_of_lt_of_le E_b7.lt gq20_0)
        have ne_b10_b2_20 : b10 ≠ b2_20 := Nat.ne_of_lt (Nat.lt_of_lt_of_le E_b10.lt gq20_0)
        have ne_b11_b2_20 : b11 ≠ b2_20 := Nat.ne_of_lt (Nat.lt_of_lt_of_le E_b11.lt gq20_0)
        have ne_b9_12_b2_20 : b9_12 ≠ b2_20 := Nat.ne_of_lt (Nat.lt_of_lt_of_le E_b9_12.lt gq20_0)
        have ne_b13_b2_20 : b13 ≠ b2_20 := Nat.ne_of_lt (Nat.lt_of_lt_of_le E_b13.lt gq20_0)
        have ne_b14_b2_20 : b14 ≠ b2_20 := Nat.ne_of_lt (Nat.lt_of_lt_of_le E_b14.lt gq20_0)
        have ne_b9_15_b2_20 : b9_15 ≠ b2_20 := Nat.ne_of_lt (Nat.lt_of_lt_of_le E_b9_15.lt gq20_0)
        have ne_b16_b2_20 : b16 ≠ b2_20 := Nat.ne_of_lt (Nat.lt_of_lt_of_le E_b16.lt gq20_0)
        have ne_b17_b2_20 : b17 ≠ b2_20 := Nat.ne_of_lt (Nat.lt_of_lt_of_le E_b17.lt gq20_0)
        have ne_b9_18_b2_20 : b9_18 ≠ b2_20 := Nat.ne_of_lt (Nat.lt_of_lt_of_le E_b9_18.lt gq20_0)
        have ne_b19_b2_20 : b19 ≠ b2_20 := Nat.ne_of_lt (Nat.lt_of_lt_of_le E_b19.lt gq20_0)
        replace E_b7 := E_b7.keep Kq20
        replace F_b7_vehicle := F_b7_vehicle.keep Kq20 (ninS ne_b7_b19 nin0)
        replace F_b7_from := F_b7_from.keep Kq20 (ninS ne_b7_b19 nin0)
        replace F_b7_to := F_b7_to.keep Kq20 (ninS ne_b7_b19 nin0)
        replace F_b7_depart := F_b7_depart.keep Kq20 (ninS ne_b7_b19 nin0)
        replace F_b7_maxSpeed := F_b7_maxSpeed.keep Kq20 (ninS ne_b7_b19 nin0)
        replace E_b10 := E_b10.keep Kq20
        replace F_b10_departedAt := F_b10_departedAt.keep Kq20 (ninS ne_b10_b19 nin0)
        replace F_b10_arrivedAt := F_b10_arrivedAt.keep Kq20 (ninS ne_b10_b19 nin0)
        replace F_b10_trip := F_b10_trip.keep Kq20 (ninS ne_b10_b19 nin0)
        replace F_b10_id := F_b10_id.keep Kq20 (ninS ne_b10_b19 nin0)
        replace F_b10_maxSpeed := F_b10_maxSpeed.keep Kq20 (ninS ne_b10_b19 nin0)
        replace F_b10_route := F_b10_route.keep Kq20 (ninS ne_b10_b19 nin0)
        replace F_b10_link := F_b10_link.keep Kq20 (ninS ne_b10_b19 nin0)
        replace F_b10_nextLink := F_b10_nextLink.keep Kq20 (ninS ne_b10_b19 nin0)
        replace F_b10_pos := F_b10_pos.keep Kq20 (ninS ne_b10_b19 nin0)
        replace E_b11 := E_b11.keep Kq20
        replace V_b11 := V_b11.keep Kq20 (ninS ne_b11_b19 nin0)
        replace E_b9_12 := E_b9_12.keep Kq20
        replace V_b9_12 := V_b9_12.keep Kq20 (ninS ne_b9_12_b19 nin0)
        replace E_b13 := E_b13.keep Kq20
        replace F_b13_departedAt := F_b13_departedAt.keep Kq20 (ninS ne_b13_b19 nin0)
        replace F_b13_arrivedAt := F_b13_arrivedAt.keep Kq20 (ninS ne_b13_b19 nin0)
        replace F_b13_trip := F_b13_trip.keep Kq20 (ninS ne_b13_b19 nin0)
        replace F_b13_id := F_b13_id.keep Kq20 (ninS ne_b13_b19 nin0)
        replace F_b13_maxSpeed := F_b13_maxSpeed.keep Kq20 (ninS ne_b13_b19 nin0)
        replace F_b13_route := F_b13_route.keep Kq20 (ninS ne_b13_b19 nin0)
        replace F_b13_link := F_b13_link.keep Kq20 (ninS ne_b13_b19 nin0)
        replace F_b13_nextLink := F_b13_nextLink.keep Kq20 (ninS ne_b13_b19 nin0)
        replace F_b13_pos := F_b13_pos.keep Kq20 (ninS ne_b13_b19 nin0)
        replace E_b14 := E_b14.keep Kq20
        replace V_b14 := V_b14.keep Kq20 (ninS ne_b14_b19 nin0)
        replace E_b9_15 := E_b9_15.keep Kq20
        replace V_b9_15 := V_b9_15.keep Kq20 (ninS ne_b9_15_b19 nin0)
        replace E_b16 := E_b16.keep Kq20
        replace F_b16_departedAt := F_b16_departedAt.keep Kq20 (ninS ne_b16_b19 nin0)
        replace F_b16_arrivedAt := F_b16_arrivedAt.keep Kq20 (ninS ne_b16_b19 nin0)
        replace F_b16_trip := F_b16_trip.keep Kq20 (ninS ne_b16_b19 nin0)
        replace F_b16_id := F_b16_id.keep Kq20 (ninS ne_b16_b19 nin0)
        replace F_b16_maxSpeed := F_b16_maxSpeed.keep Kq20 (ninS ne_b16_b19 nin0)
        replace F_b16_route := F_b16_route.keep Kq20 (ninS ne_b16_b19 nin0)
        replace F_b16_link := F_b16_link.keep Kq20 (ninS ne_b16_b19 nin0)
        replace F_b16_nextLink := F_b16_nextLink.keep Kq20 (ninS ne_b16_b19 nin0)
        replace F_b16_pos := F_b16_pos.keep Kq20 (ninS ne_b16_b19 nin0)
        replace E_b17 := E_b17.keep Kq20
        replace V_b17 := V_b17.keep Kq20 (ninS ne_b17_b19 nin0)
        replace E_b9_18 := E_b9_18.keep Kq20
        replace V_b9_18 := V_b9_18.keep Kq20 (ninS ne_b9_18_b19 nin0)
        replace E_b19 := E_b19.keep Kq20
        have E_b19 := gq20_1
        have F_b19_vehicles := gq20_2
        have F_b19_link := gq20_3
        have F_b19_part := gq20_4
        have F_b19_size := gq20_5
        have E_b2_20 := gq20_6
        have V_b2_20 := gq20_7
        replace Z0 := Nat.le_trans Z0 Kq20.1
        replace hk := Nat.le_trans hk Kq20.1
        as_aux_lemma =>
          refine own_astore X20 hx hby rfl (L' := #[.val (.int p0), .val (.int p1), .val (.int p2), .val (.int p3), .val (.int p4), .val (.int p5), .val (.int n1), .val (.int n3), .val (.int n4), .val (.int n5), .val (.int n6), .val (.ref b7), .val (.ref b10), .val (.ref b13), .val (.ref b16), .val (.ref b19), .unset, .unset]) rfl at_113 (pc' := 115) rfl ?_
          rcases own_n4 q_n1 with rfl | rfl | rfl | rfl
          · refine own_iload X20 hx hby rfl at_115 (pc' := 117) rfl ?_
            refine own_iconst X20 hx hby (v := (1 : Int32)) (by decide) at_117 (pc' := 118) rfl ?_
            refine own_icT X20 hx hby at_118 (by decide) (by decide) (pc' := 138) (by decide) ?_
            refine own_iload X20 hx hby rfl at_138 (pc' := 140) rfl ?_
            refine own_iconst X20 hx hby (v := (2 : Int32)) (by decide) at_140 (pc' := 141) rfl ?_
            refine own_icT X20 hx hby at_141 (by decide) (by decide) (pc' := 161) (by decide) ?_
            refine own_iload X20 hx hby rfl at_161 (pc' := 163) rfl ?_
            refine own_iconst X20 hx hby (v := (3 : Int32)) (by decide) at_163 (pc' := 164) rfl ?_
            refine own_icT X20 hx hby at_164 (by decide) (by decide) (pc' := 184) (by decide) ?_
            by_cases hq3 : n6 = 3
            · subst hq3
              refine own_aload X20 hx hby rfl rfl at_184 (pc' := 186) rfl ?_
              refine own_iload X20 hx hby rfl at_186 (pc' := 188) rfl ?_
              refine own_aload X20 hx hby rfl rfl at_188 (pc' := 190) rfl ?_
              refine own_aload X20 hx hby rfl rfl at_190 (pc' := 192) rfl ?_
              refine own_aload X20 hx hby rfl rfl at_192 (pc' := 194) rfl ?_
              refine own_static X20 hx hby hZ (y := (⟨"com/example/phlow/phlow/engine/LaneIndexOfPinLaw", "pick", "(ILcom/example/phlow/phlow/engine/Vehicle;Lcom/example/phlow/phlow/engine/Vehicle;Lcom/example/phlow/phlow/engine/Vehicle;)Lcom/example/phlow/phlow/engine/Vehicle;"⟩ : MethodName)) (rest := [(.ref b19)]) hown (hw _ (List.mem_of_getElem? (i := 91) rfl)) (hw _ (List.mem_of_getElem? (i := 92) rfl)) (hw _ (List.mem_of_getElem? (i := 94) rfl)) (hw _ (List.mem_of_getElem? (i := 93) rfl)) (by decide) (rm8n l Z a0 hw [] b10 b13 b16 h20 n0 Z0) eH20 (by rw [hml]; rfl) (argsL := [(.int (3 : Int32)), (.ref b10), (.ref b13), (.ref b16)]) rfl (lenOf pd_6 rfl) rfl at_194 (pc' := 197) rfl (by decide) (W := 1) (Nat.le_of_eq rfl) (by decide) (by decide) (by decide) (fun T21 h21 Lc21 v21r X21 eH21 hQ21 => ?_)
              obtain ⟨rfl, Nq21, rfl⟩ := hQ21
              have N21 := Fr.app N20 Nq21
              refine own_virtual X21 hx hby hZ (y := (⟨"com/example/phlow/phlow/engine/Lane", "indexOf", "(Lcom/example/phlow/phlow/engine/Vehicle;)I"⟩ : MethodName)) (y' := (⟨"com/example/phlow/phlow/engine/Lane", "indexOf", "(Lcom/example/phlow/phlow/engine/Vehicle;)I"⟩ : MethodName)) (C := "com/example/phlow/phlow/engine/Lane") (rest := []) hown (hw _ (List.mem_of_getElem? (i := 95) rfl)) (hw _ (List.mem_of_getElem? (i := 96) rfl)) (notFace_of_selects (args := #[]) (mvT hZ (hw _ (List.mem_of_getElem? (i := 98) rfl)))) (hw _ (List.mem_of_getElem? (i := 98) rfl)) (hw _ (List.mem_of_getElem? (i := 97) rfl)) (hw _ (List.mem_of_getElem? (i := 99) rfl)) (hw _ (List.mem_of_getElem? (i := 78) rfl)) (by decide) (rm9n0 l Z a0 hw [] b19 b2_20 p5 (p5 ^^^ p0) h20 n0 Z0 F_b19_vehicles F_b19_link F_b19_part F_b19_size V_b2_20) eH21 (by rw [hml]; rfl) (a := b19) E_b19 (argsL := [.null]) rfl (lenOf pd_7 rfl) rfl at_197 (pc' := 200) rfl (by decide) (W := 0) (Nat.le_of_eq rfl) (by decide) (by decide) (by decide) (fun T22 h22 Lc22 v22r X22 eH22 hQ22 => ?_)
              obtain ⟨rfl, Nq22, rfl⟩ := hQ22
              have N22 := Fr.app N21 Nq22
              refine own_istore X22 hx hby (L' := #[.val (.int p0), .val (.int p1), .val (.int p2), .val (.int p3), .val (.int p4), .val (.int p5), .val (.int (0 : Int32)), .val (.int n3), .val (.int n4), .val (.int n5), .val (.int (3 : Int32)), .val (.ref b7), .val (.ref b10), .val (.ref b13), .val (.ref b16), .val (.ref b19), .val (.int (-1 : Int32)), .unset]) rfl at_200 (pc' := 202) rfl ?_
              refine own_iconst X22 hx hby (v := (-1 : Int32)) (by decide) at_202 (pc' := 203) rfl ?_
              refine own_istore X22 hx hby (L' := #[.val (.int p0), .val (.int p1), .val (.int p2), .val (.int p3), .val (.int p4), .val (.int p5), .val (.int (0 : Int32)), .val (.int n3), .val (.int n4), .val (.int n5), .val (.int (3 : Int32)), .val (.ref b7), .val (.ref b10), .val (.ref b13), .val (.ref b16), .val (.ref b19), .val (.int (-1 : Int32)), .val (.int (-1 : Int32))]) rfl at_203 (pc' := 205) rfl ?_
              refine own_iload X22 hx hby rfl at_205 (pc' := 207) rfl ?_
              refine own_iconst X22 hx hby (v := (1 : Int32)) (by decide) at_207 (pc' := 208) rfl ?_
              refine own_icT X22 hx hby at_208 (by decide) (by decide) (pc' := 224) (by decide) ?_
              refine own_iload X22 hx hby rfl at_224 (pc' := 226) rfl ?_
              refine own_iconst X22 hx hby (v := (2 : Int32)) (by decide) at_226 (pc' := 227) rfl ?_
              refine own_icT X22 hx hby at_227 (by decide) (by decide) (pc' := 243) (by decide) ?_
              refine own_iload X22 hx hby rfl at_243 (pc' := 245) rfl ?_
              refine own_iconst X22 hx hby (v := (3 : Int32)) (by decide) at_245 (pc' := 246) rfl ?_
              refine own_icT X22 hx hby at_246 (by decide) (by decide) (pc' := 262) (by decide) ?_
              refine own_iload X22 hx hby rfl at_262 (pc' := 264) rfl ?_
              refine own_iload X22 hx hby rfl at_264 (pc' := 266) rfl ?_
              refine own_icF X22 hx hby at_266 (by decide) (pc' := 269) rfl ?_
              refine own_iconst X22 hx hby (v := (1 : Int32)) (by decide) at_269 (pc' := 270) rfl ?_
              refine own_goto X22 hx hby at_270 (by decide) (pc' := 274) (by decide) ?_
              exact own_retZW X22 hx hby Bd.notSynchronized Bd.returns (Or.inr rfl) at_274 (by decide) (by decide) eH22 hS hk ⟨rfl, N22⟩
            · have hq2 := own_not3 (own_n4 q_n6) hq3
              refine own_aload X20 hx hby rfl rfl at_184 (pc' := 186) rfl ?_
              refine own_iload X20 hx hby rfl at_186 (pc' := 188) rfl ?_
              refine own_aload X20 hx hby rfl rfl at_188 (pc' := 190) rfl ?_
              refine own_aload X20 hx hby rfl rfl at_190 (pc' := 192) rfl ?_
              refine own_aload X20 hx hby rfl rfl at_192 (pc' := 194) rfl ?_
              have hc_x23 := hq2
              obtain ⟨x23, hx_x23⟩ := own_ex (a := b10) (b := b13) (d := b16) hc_x23
              refine own_static X20 hx hby hZ (y := (⟨"com/example/phlow/phlow/engine/LaneIndexOfPinLaw", "pick", "(ILcom/example/phlow/phlow/engine/Vehicle;Lcom/example/phlow/phlow/engine/Vehicle;Lcom/example/phlow/phlow/engine/Vehicle;)Lcom/example/phlow/phlow/engine/Vehicle;"⟩ : MethodName)) (rest := [(.ref b19)]) hown (hw _ (List.mem_of_getElem? (i := 91) rfl)) (hw _ (List.mem_of_getElem? (i := 92) rfl)) (hw _ (List.mem_of_getElem? (i := 94) rfl)) (hw _ (List.mem_of_getElem? (i := 93) rfl)) (by decide) (rm8 l Z a0 hw [] n6 b10 b13 b16 x23 h20 n0 Z0 hx_x23) eH20 (by rw [hml]; rfl) (argsL := [(.int n6), (.ref b10), (.ref b13), (.ref b16)]) rfl (lenOf pd_6 rfl) rfl at_194 (pc' := 197) rfl (by decide) (W := 1) (Nat.le_of_eq rfl) (by decide) (by decide) (by decide) (fun T24 h24 Lc24 v24r X24 eH24 hQ24 => ?_)
              obtain ⟨rfl, Nq24, rfl⟩ := hQ24
              have N24 := Fr.app N20 Nq24
              have E_x23 : Exa Z h20 x23 "com/example/phlow/phlow/engine/Vehicle" := own_of (P := fun r => Exa Z h20 r "com/example/phlow/phlow/engine/Vehicle") hx_x23 E_b10 E_b13 E_b16
              have F_x23_pos : Fld Z h20 x23 "com/example/phlow/phlow/engine/Vehicle" "pos" "D" (.double (0 : UInt64)) := own_of (P := fun r => Fld Z h20 r "com/example/phlow/phlow/engine/Vehicle" "pos" "D" (.double (0 : UInt64))) hx_x23 F_b10_pos F_b13_pos F_b16_pos
              have ne_x23_b19 : x23 ≠ b19 := own_of (P := fun r => r ≠ b19) hx_x23 ne_b10_b19 ne_b13_b19 ne_b16_b19
              have ne_x23_b2_20 : x23 ≠ b2_20 := own_of (P := fun r => r ≠ b2_20) hx_x23 ne_b10_b2_20 ne_b13_b2_20 ne_b16_b2_20
              refine own_virtual X24 hx hby hZ (y := (⟨"com/example/phlow/phlow/engine/Lane", "indexOf", "(Lcom/example/phlow/phlow/engine/Vehicle;)I"⟩ : MethodName)) (y' := (⟨"com/example/phlow/phlow/engine/Lane", "indexOf", "(Lcom/example/phlow/phlow/engine/Vehicle;)I"⟩ : MethodName)) (C := "com/example/phlow/phlow/engine/Lane") (rest := []) hown (hw _ (List.mem_of_getElem? (i := 95) rfl)) (hw _ (List.mem_of_getElem? (i := 96) rfl)) (notFace_of_selects (args := #[]) (mvT hZ (hw _ (List.mem_of_getElem? (i := 98) rfl)))) (hw _ (List.mem_of_getElem? (i := 98) rfl)) (hw _ (List.mem_of_getElem? (i := 97) rfl)) (hw _ (List.mem_of_getElem? (i := 99) rfl)) (hw _ (List.mem_of_getElem? (i := 78) rfl)) (by decide) (rm9s0 l Z a0 hw [] b19 x23 b2_20 p5 (p5 ^^^ p0) h20 n0 Z0 F_b19_vehicles F_b19_link F_b19_part F_b19_size V_b2_20) eH24 (by rw [hml]; rfl) (a := b19) E_b19 (argsL := [(.ref x23)]) rfl (lenOf pd_7 rfl) rfl at_197 (pc' := 200) rfl (by decide) (W := 0) (Nat.le_of_eq rfl) (by decide) (by decide) (by decide) (fun T25 h25 Lc25 v25r X25 eH25 hQ25 => ?_)
              obtain ⟨rfl, Nq25, rfl⟩ := hQ25
              have N25 := Fr.app N24 Nq25
              refine own_istore X25 hx hby (L' := #[.val (.int p0), .val (.int p1), .val (.int p2), .val (.int p3), .val (.int p4), .val (.int p5), .val (.int (0 : Int32)), .val (.int n3), .val (.int n4), .val (.int n5), .val (.int n6), .val (.ref b7), .val (.ref b10), .val (.ref b13), .val (.ref b16), .val (.ref b19), .val (.int (-1 : Int32)), .unset]) rfl at_200 (pc' := 202) rfl ?_
              refine own_iconst X25 hx hby (v := (-1 : Int32)) (by decide) at_202 (pc' := 203) rfl ?_
              refine own_istore X25 hx hby (L' := #[.val (.int p0), .val (.int p1), .val (.int p2), .val (.int p3), .val (.int p4), .val (.int p5), .val (.int (0 : Int32)), .val (.int n3), .val (.int n4), .val (.int n5), .val (.int n6), .val (.ref b7), .val (.ref b10), .val (.ref b13), .val (.ref b16), .val (.ref b19), .val (.int (-1 : Int32)), .val (.int (-1 : Int32))]) rfl at_203 (pc' := 205) rfl ?_
              refine own_iload X25 hx hby rfl at_205 (pc' := 207) rfl ?_
              refine own_iconst X25 hx hby (v := (1 : Int32)) (by decide) at_207 (pc' := 208) rfl ?_
              refine own_icT X25 hx hby at_208 (by decide) (by decide) (pc' := 224) (by decide) ?_
              refine own_iload X25 hx hby rfl at_224 (pc' := 226) rfl ?_
              refine own_iconst X25 hx hby (v := (2 : Int32)) (by decide) at_226 (pc' := 227) rfl ?_
              refine own_icT X25 hx hby at_227 (by decide) (by decide) (pc' := 243) (by decide) ?_
              refine own_iload X25 hx hby rfl at_243 (pc' := 245) rfl ?_
              refine own_iconst X25 hx hby (v := (3 : Int32)) (by decide) at_245 (pc' := 246) rfl ?_
              refine own_icT X25 hx hby at_246 (by decide) (by decide) (pc' := 262) (by decide) ?_
              refine own_iload X25 hx hby rfl at_262 (pc' := 264) rfl ?_
              refine own_iload X25 hx hby rfl at_264 (pc' := 266) rfl ?_
              refine own_icF X25 hx hby at_266 (by decide) (pc' := 269) rfl ?_
              refine own_iconst X25 hx hby (v := (1 : Int32)) (by decide) at_269 (pc' := 270) rfl ?_
              refine own_goto X25 hx hby at_270 (by decide) (pc' := 274) (by decide) ?_
              exact own_retZW X25 hx hby Bd.notSynchronized Bd.returns (Or.inr rfl) at_274 (by decide) (by decide) eH25 hS hk ⟨rfl, N25⟩
          · refine own_iload X20 hx hby rfl at_115 (pc' := 117) rfl ?_
            refine own_iconst X20 hx hby (v := (1 : Int32)) (by decide) at_117 (pc' := 118) rfl ?_
            refine own_icF X20 hx hby at_118 (by decide) (pc' := 121) rfl ?_
            refine own_aload X20 hx hby rfl rfl at_121 (pc' := 123) rfl ?_
            refine own_iload X20 hx hby rfl at_123 (pc' := 125) rfl ?_
            refine own_aload X20 hx hby rfl rfl at_125 (pc' := 127) rfl ?_
            refine own_aload X20 hx hby rfl rfl at_127 (pc' := 129) rfl ?_
            refine own_aload X20 hx hby rfl rfl at_129 (pc' := 131) rfl ?_
            have hc_x26 := own_c3 q_n3
            obtain ⟨x26, hx_x26⟩ := own_ex (a := b10) (b := b13) (d := b16) hc_x26
            refine own_static X20 hx hby hZ (y := (⟨"com/example/phlow/phlow/engine/LaneIndexOfPinLaw", "pick", "(ILcom/example/phlow/phlow/engine/Vehicle;Lcom/example/phlow/phlow/engine/Vehicle;Lcom/example/phlow/phlow/engine/Vehicle;)Lcom/example/phlow/phlow/engine/Vehicle;"⟩ : MethodName)) (rest := [(.ref b19)]) hown (hw _ (List.mem_of_getElem? (i := 91) rfl)) (hw _ (List.mem_of_getElem? (i := 92) rfl)) (hw _ (List.mem_of_getElem? (i := 94) rfl)) (hw _ (List.mem_of_getElem? (i := 93) rfl)) (by decide) (rm8 l Z a0 hw [] n3 b10 b13 b16 x26 h20 n0 Z0 hx_x26) eH20 (by rw [hml]; rfl) (argsL := [(.int n3), (.ref b10), (.ref b13), (.ref b16)]) rfl (lenOf pd_6 rfl) rfl at_131 (pc' := 134) rfl (by decide) (W := 1) (Nat.le_of_eq rfl) (by decide) (by decide) (by decide) (fun T27 h27 Lc27 v27r X27 eH27 hQ27 => ?_)
            obtain ⟨rfl, Nq27, rfl⟩ := hQ27
            have N27 := Fr.app N20 Nq27
            have E_x26 : Exa Z h20 x26 "com/example/phlow/phlow/engine/Vehicle" := own_of (P := fun r => Exa Z h20 r "com/example/phlow/phlow/engine/Vehicle") hx_x26 E_b10 E_b13 E_b16
            have F_x26_pos : Fld Z h20 x26 "com/example/phlow/phlow/engine/Vehicle" "pos" "D" (.double (0 : UInt64)) := own_of (P := fun r => Fld Z h20 r "com/example/phlow/phlow/engine/Vehicle" "pos" "D" (.double (0 : UInt64))) hx_x26 F_b10_pos F_b13_pos F_b16_pos
            have ne_x26_b19 : x26 ≠ b19 := own_of (P := fun r => r ≠ b19) hx_x26 ne_b10_b19 ne_b13_b19 ne_b16_b19
            have ne_x26_b2_20 : x26 ≠ b2_20 := own_of (P := fun r => r ≠ b2_20) hx_x26 ne_b10_b2_20 ne_b13_b2_20 ne_b16_b2_20
            refine own_virtual X27 hx hby hZ (y := (⟨"com/example/phlow/phlow/engine/Lane", "insert", "(Lcom/example/phlow/phlow/engine/Vehicle;)I"⟩ : MethodName)) (y' := (⟨"com/example/phlow/phlow/engine/Lane", "insert", "(Lcom/example/phlow/phlow/engine/Vehicle;)I"⟩ : MethodName)) (C := "com/example/phlow/phlow/engine/Lane") (rest := []) hown (hw _ (List.mem_of_getElem? (i := 102) rfl)) (hw _ (List.mem_of_getElem? (i := 103) rfl)) (notFace_of_selects (args := #[]) (mvT hZ (hw _ (List.mem_of_getElem? (i := 105) rfl)))) (hw _ (List.mem_of_getElem? (i := 105) rfl)) (hw _ (List.mem_of_getElem? (i := 104) rfl)) (hw _ (List.mem_of_getElem? (i := 106) rfl)) (hw _ (List.mem_of_getElem? (i := 78) rfl)) (by decide) (rm10s0 l Z a0 hw [] b19 x26 b2_20 p5 (p5 ^^^ p0) h20 n0 Z0 F_b19_vehicles F_b19_link F_b19_part F_b19_size V_b2_20 E_x26 F_x26_pos E_b19 g_b2_20 ne_b19_b2_20 ne_x26_b2_20 g_b19 ne_x26_b19) eH27 (by rw [hml]; rfl) (a := b19) E_b19 (argsL := [(.ref x26)]) rfl (lenOf pd_7 rfl) rfl at_134 (pc' := 137) rfl (by decide) (W := 0) (Nat.le_of_eq rfl) (by decide) (by decide) (by decide) (fun T28 h28 Lc28 v28r X28 eH28 hQ28 => ?_)
            obtain ⟨rfl, Nq28, Kq28, gq28_0, gq28_1, gq28_2, gq28_3, gq28_4, gq28_5⟩ := hQ28
            have N28 := Fr.app N27 Nq28
            replace E_b7 := E_b7.keep Kq28
            replace F_b7_vehicle := F_b7_vehicle.keep Kq28 (ninS ne_b7_b2_20 (ninS ne_b7_b19 nin0))
            replace F_b7_from := F_b7_from.keep Kq28 (ninS ne_b7_b2_20 (ninS ne_b7_b19 nin0))
            replace F_b7_to := F_b7_to.keep Kq28 (ninS ne_b7_b2_20 (ninS ne_b7_b19 nin0))
            replace F_b7_depart := F_b7_depart.keep Kq28 (ninS ne_b7_b2_20 (ninS ne_b7_b19 nin0))
            replace F_b7_maxSpeed := F_b7_maxSpeed.keep Kq28 (ninS ne_b7_b2_20 (ninS ne_b7_b19 nin0))
            replace E_b10 := E_b10.keep Kq28
            replace F_b10_departedAt := F_b10_departedAt.keep Kq28 (ninS ne_b10_b2_20 (ninS ne_b10_b19 nin0))
            replace F_b10_arrivedAt := F_b10_arrivedAt.keep Kq28 (ninS ne_b10_b2_20 (ninS ne_b10_b19 nin0))
            replace F_b10_trip := F_b10_trip.keep Kq28 (ninS ne_b10_b2_20 (ninS ne_b10_b19 nin0))
            replace F_b10_id := F_b10_id.keep Kq28 (ninS ne_b10_b2_20 (ninS ne_b10_b19 nin0))
            replace F_b10_maxSpeed := F_b10_maxSpeed.keep Kq28 (ninS ne_b10_b2_20 (ninS ne_b10_b19 nin0))
            replace F_b10_route := F_b10_route.keep Kq28 (ninS ne_b10_b2_20 (ninS ne_b10_b19 nin0))
            replace F_b10_link := F_b10_link.keep Kq28 (ninS ne_b10_b2_20 (ninS ne_b10_b19 nin0))
            replace F_b10_nextLink := F_b10_nextLink.keep Kq28 (ninS ne_b10_b2_20 (ninS ne_b10_b19 nin0))
            replace F_b10_pos := F_b10_pos.keep Kq28 (ninS ne_b10_b2_20 (ninS ne_b10_b19 nin0))
            replace E_b11 := E_b11.keep Kq28
            replace V_b11 := V_b11.keep Kq28 (ninS ne_b11_b2_20 (ninS ne_b11_b19 nin0))
            replace E_b9_12 := E_b9_12.keep Kq28
            replace V_b9_12 := V_b9_12.keep Kq28 (ninS ne_b9_12_b2_20 (ninS ne_b9_12_b19 nin0))
            replace E_b13 := E_b13.keep Kq28
            replace F_b13_departedAt := F_b13_departedAt.keep Kq28 (ninS ne_b13_b2_20 (ninS ne_b13_b19 nin0))
            replace F_b13_arrivedAt := F_b13_arrivedAt.keep Kq28 (ninS ne_b13_b2_20 (ninS ne_b13_b19 nin0))
            replace F_b13_trip := F_b13_trip.keep Kq28 (ninS ne_b13_b2_20 (ninS ne_b13_b19 nin0))
            replace F_b13_id := F_b13_id.keep Kq28 (ninS ne_b13_b2_20 (ninS ne_b13_b19 nin0))
            replace F_b13_maxSpeed := F_b13_maxSpeed.keep Kq28 (ninS ne_b13_b2_20 (ninS ne_b13_b19 nin0))
            replace F_b13_route := F_b13_route.keep Kq28 (ninS ne_b13_b2_20 (ninS ne_b13_b19 nin0))
            replace F_b13_link := F_b13_link.keep Kq28 (ninS ne_b13_b2_20 (ninS ne_b13_b19 nin0))
            replace F_b13_nextLink := F_b13_nextLink.keep Kq28 (ninS ne_b13_b2_20 (ninS ne_b13_b19 nin0))
            replace F_b13_pos := F_b13_pos.keep Kq28 (ninS ne_b13_b2_20 (ninS ne_b13_b19 nin0))
            replace E_b14 := E_b14.keep Kq28
            replace V_b14 := V_b14.keep Kq28 (ninS ne_b14_b2_20 (ninS ne_b14_b19 nin0))
            replace E_b9_15 := E_b9_15.keep Kq28
            replace V_b9_15 := V_b9_15.keep Kq28 (ninS ne_b9_15_b2_20 (ninS ne_b9_15_b19 nin0))
            replace E_b16 := E_b16.keep Kq28
            replace F_b16_departedAt := F_b16_departedAt.keep Kq28 (ninS ne_b16_b2_20 (ninS ne_b16_b19 nin0))
            replace F_b16_arrivedAt := F_b16_arrivedAt.keep Kq28 (ninS ne_b16_b2_20 (ninS ne_b16_b19 nin0))
            replace F_b16_trip := F_b16_trip.keep Kq28 (ninS ne_b16_b2_20 (ninS ne_b16_b19 nin0))
            replace F_b16_id := F_b16_id.keep Kq28 (ninS ne_b16_b2_20 (ninS ne_b16_b19 nin0))
            replace F_b16_maxSpeed := F_b16_maxSpeed.keep Kq28 (ninS ne_b16_b2_20 (ninS ne_b16_b19 nin0))
            replace F_b16_route := F_b16_route.keep Kq28 (ninS ne_b16_b2_20 (ninS ne_b16_b19 nin0))
            replace F_b16_link := F_b16_link.keep Kq28 (ninS ne_b16_b2_20 (ninS ne_b16_b19 nin0))
            replace F_b16_nextLink := F_b16_nextLink.keep Kq28 (ninS ne_b16_b2_20 (ninS ne_b16_b19 nin0))
            replace F_b16_pos := F_b16_pos.keep Kq28 (ninS ne_b16_b2_20 (ninS ne_b16_b19 nin0))
            replace E_b17 := E_b17.keep Kq28
            replace V_b17 := V_b17.keep Kq28 (ninS ne_b17_b2_20 (ninS ne_b17_b19 nin0))
            replace E_b9_18 := E_b9_18.keep Kq28
            replace V_b9_18 := V_b9_18.keep Kq28 (ninS ne_b9_18_b2_20 (ninS ne_b9_18_b19 nin0))
            replace E_b19 := E_b19.keep Kq28
            replace E_b2_20 := E_b2_20.keep Kq28
            replace E_x26 := E_x26.keep Kq28
            replace F_x26_pos := F_x26_pos.keep Kq28 (ninS ne_x26_b2_20 (ninS ne_x26_b19 nin0))
            have V_b2_20 := gq28_0
            have E_b19 := gq28_1
            have F_b19_vehicles := gq28_2
            have F_b19_link := gq28_3
            have F_b19_part := gq28_4
            have F_b19_size := gq28_5
            replace Z0 := Nat.le_trans Z0 Kq28.1
            replace hk := Nat.le_trans hk Kq28.1
            as_aux_lemma =>
              refine own_pop X28 hx hby rfl at_137 (pc' := 138) rfl ?_
              refine own_iload X28 hx hby rfl at_138 (pc' := 140) rfl ?_
              refine own_iconst X28 hx hby (v := (2 : Int32)) (by decide) at_140 (pc' := 141) rfl ?_
              refine own_icT X28 hx hby at_141 (by decide) (by decide) (pc' := 161) (by decide) ?_
              refine own_iload X28 hx hby rfl at_161 (pc' := 163) rfl ?_
              refine own_iconst X28 hx hby (v := (3 : Int32)) (by decide) at_163 (pc' := 164) rfl ?_
              refine own_icT X28 hx hby at_164 (by decide) (by decide) (pc' := 184) (by decide) ?_
              by_cases hq3 : n6 = 3
              · subst hq3
                refine own_aload X28 hx hby rfl rfl at_184 (pc' := 186) rfl ?_
                refine own_iload X28 hx hby rfl at_186 (pc' := 188) rfl ?_
                refine own_aload X28 hx hby rfl rfl at_188 (pc' := 190) rfl ?_
                refine own_aload X28 hx hby rfl rfl at_190 (pc' := 192) rfl ?_
                refine own_aload X28 hx hby rfl rfl at_192 (pc' := 194) rfl ?_
                refine own_static X28 hx hby hZ (y := (⟨"com/example/phlow/phlow/engine/LaneIndexOfPinLaw", "pick", "(ILcom/example/phlow/phlow/engine/Vehicle;Lcom/example/phlow/phlow/engine/Vehicle;Lcom/example/phlow/phlow/engine/Vehicle;)Lcom/example/phlow/phlow/engine/Vehicle;"⟩ : MethodName)) (rest := [(.ref b19)]) hown (hw _ (List.mem_of_getElem? (i := 91) rfl)) (hw _ (List.mem_of_getElem? (i := 92) rfl)) (hw _ (List.mem_of_getElem? (i := 94) rfl)) (hw _ (List.mem_of_getElem? (i := 93) rfl)) (by decide) (rm8n l Z a0 hw [] b10 b13 b16 h28 n0 Z0) eH28 (by rw [hml]; rfl) (argsL := [(.int (3 : Int32)), (.ref b10), (.ref b13), (.ref b16)]) rfl (lenOf pd_6 rfl) rfl at_194 (pc' := 197) rfl (by decide) (W := 1) (Nat.le_of_eq rfl) (by decide) (by decide) (by decide) (fun T29 h29 Lc29 v29r X29 eH29 hQ29 => ?_)
                obtain ⟨rfl, Nq29, rfl⟩ := hQ29
                have N29 := Fr.app N28 Nq29
                refine own_virtual X29 hx hby hZ (y := (⟨"com/example/phlow/phlow/engine/Lane", "indexOf", "(Lcom/example/phlow/phlow/engine/Vehicle;)I"⟩ : MethodName)) (y' := (⟨"com/example/phlow/phlow/engine/Lane", "indexOf", "(Lcom/example/phlow/phlow/engine/Vehicle;)I"⟩ : MethodName)) (C := "com/example/phlow/phlow/engine/Lane") (rest := []) hown (hw _ (List.mem_of_getElem? (i := 95) rfl)) (hw _ (List.mem_of_getElem? (i := 96) rfl)) (notFace_of_selects (args := #[]) (mvT hZ (hw _ (List.mem_of_getElem? (i := 98) rfl)))) (hw _ (List.mem_of_getElem? (i := 98) rfl)) (hw _ (List.mem_of_getElem? (i := 97) rfl)) (hw _ (List.mem_of_getElem? (i := 99) rfl)) (hw _ (List.mem_of_getElem? (i := 78) rfl)) (by decide) (rm9n1 l Z a0 hw [] b19 b2_20 p5 (p5 ^^^ p0) x26 h28 n0 Z0 F_b19_vehicles F_b19_link F_b19_part F_b19_size V_b2_20) eH29 (by rw [hml]; rfl) (a := b19) E_b19 (argsL := [.null]) rfl (lenOf pd_7 rfl) rfl at_197 (pc' := 200) rfl (by decide) (W := 0) (Nat.le_of_eq rfl) (by decide) (by decide) (by decide) (fun T30 h30 Lc30 v30r X30 eH30 hQ30 => ?_)
                obtain ⟨rfl, Nq30, rfl⟩ := hQ30
                have N30 := Fr.app N29 Nq30
                refine own_istore X30 hx hby (L' := #[.val (.int p0), .val (.int p1), .val (.int p2), .val (.int p3), .val (.int p4), .val (.int p5), .val (.int (1 : Int32)), .val (.int n3), .val (.int n4), .val (.int n5), .val (.int (3 : Int32)), .val (.ref b7), .val (.ref b10), .val (.ref b13), .val (.ref b16), .val (.ref b19), .val (.int (-1 : Int32)), .unset]) rfl at_200 (pc' := 202) rfl ?_
                refine own_iconst X30 hx hby (v := (-1 : Int32)) (by decide) at_202 (pc' := 203) rfl ?_
                refine own_istore X30 hx hby (L' := #[.val (.int p0), .val (.int p1), .val (.int p2), .val (.int p3), .val (.int p4), .val (.int p5), .val (.int (1 : Int32)), .val (.int n3), .val (.int n4), .val (.int n5), .val (.int (3 : Int32)), .val (.ref b7), .val (.ref b10), .val (.ref b13), .val (.ref b16), .val (.ref b19), .val (.int (-1 : Int32)), .val (.int (-1 : Int32))]) rfl at_203 (pc' := 205) rfl ?_
                refine own_iload X30 hx hby rfl at_205 (pc' := 207) rfl ?_
                refine own_iconst X30 hx hby (v := (1 : Int32)) (by decide) at_207 (pc' := 208) rfl ?_
                refine own_icF X30 hx hby at_208 (by decide) (pc' := 211) rfl ?_
                refine own_iload X30 hx hby rfl at_211 (pc' := 213) rfl ?_
                refine own_iload X30 hx hby rfl at_213 (pc' := 215) rfl ?_
                obtain ⟨w31, q_w31⟩ : ∃ z : Int32, (if n3 = (3 : Int32) then (0 : Int32) else (-1 : Int32)) = z := ⟨_, rfl⟩
                refine own_join (S' := T30.setTop (mkF m 224 #[.val (.int p0), .val (.int p1), .val (.int p2), .val (.int p3), .val (.int p4), .val (.int p5), .val (.int (1 : Int32)), .val (.int n3), .val (.int n4), .val (.int n5), .val (.int (3 : Int32)), .val (.ref b7), .val (.ref b10), .val (.ref b13), .val (.ref b16), .val (.ref b19), .val (.int (-1 : Int32)), .val (.int w31)] [])) (fun F' k' => ?_) ?_
                · rw [← q_w31] at k'
                  by_cases hc32 : n3 = (3 : Int32)
                  · simp only [if_pos hc32] at k'
                    refine own_icF X30 hx hby at_215 (own_ic_ne_p hc32) (pc' := 218) rfl ?_
                    refine own_iload X30 hx hby rfl at_218 (pc' := 220) rfl ?_
                    refine own_iconst X30 hx hby (v := (1 : Int32)) (by decide) at_220 (pc' := 221) rfl ?_
                    refine own_isub X30 hx hby (v := (0 : Int32)) (by decide) at_221 (pc' := 222) rfl ?_
                    refine own_istore X30 hx hby (L' := #[.val (.int p0), .val (.int p1), .val (.int p2), .val (.int p3), .val (.int p4), .val (.int p5), .val (.int (1 : Int32)), .val (.int n3), .val (.int n4), .val (.int n5), .val (.int (3 : Int32)), .val (.ref b7), .val (.ref b10), .val (.ref b13), .val (.ref b16), .val (.ref b19), .val (.int (-1 : Int32)), .val (.int (0 : Int32))]) rfl at_222 (pc' := 224) rfl ?_
                    exact k'
                  · simp only [if_neg hc32] at k'
                    refine own_icT X30 hx hby at_215 (own_ic_ne_n hc32) (by decide) (pc' := 224) (by decide) ?_
                    exact k'
                refine own_iload X30 hx hby rfl at_224 (pc' := 226) rfl ?_
                refine own_iconst X30 hx hby (v := (2 : Int32)) (by decide) at_226 (pc' := 227) rfl ?_
                refine own_icT X30 hx hby at_227 (by decide) (by decide) (pc' := 243) (by decide) ?_
                refine own_iload X30 hx hby rfl at_243 (pc' := 245) rfl ?_
                refine own_iconst X30 hx hby (v := (3 : Int32)) (by decide) at_245 (pc' := 246) rfl ?_
                refine own_icT X30 hx hby at_246 (by decide) (by decide) (pc' := 262) (by decide) ?_
                refine own_iload X30 hx hby rfl at_262 (pc' := 264) rfl ?_
                refine own_iload X30 hx hby rfl at_264 (pc' := 266) rfl ?_
                have hk33 : (-1 : Int32) = w31 := by rw [← q_w31]; exact (((if_neg (own_no3 hc_x26)).trans rfl)).symm
                refine own_icF X30 hx hby at_266 (own_ic_ne_p hk33) (pc' := 269) rfl ?_
                refine own_iconst X30 hx hby (v := (1 : Int32)) (by decide) at_269 (pc' := 270) rfl ?_
                refine own_goto X30 hx hby at_270 (by decide) (pc' := 274) (by decide) ?_
                exact own_retZW X30 hx hby Bd.notSynchronized Bd.returns (Or.inr rfl) at_274 (by decide) (by decide) eH30 hS hk ⟨rfl, N30⟩
              · have hq2 := own_not3 (own_n4 q_n6) hq3
                refine own_aload X28 hx hby rfl rfl at_184 (pc' := 186) rfl ?_
                refine own_iload X28 hx hby rfl at_186 (pc' := 188) rfl ?_
                refine own_aload X28 hx hby rfl rfl at_188 (pc' := 190) rfl ?_
                refine own_aload X28 hx hby rfl rfl at_190 (pc' := 192) rfl ?_
                refine own_aload X28 hx hby rfl rfl at_192 (pc' := 194) rfl ?_
                have hc_x34 := hq2
                obtain ⟨x34, hx_x34⟩ := own_ex (a := b10) (b := b13) (d := b16) hc_x34
                refine own_static X28 hx hby hZ (y := (⟨"com/example/phlow/phlow/engine/LaneIndexOfPinLaw", "pick", "(ILcom/example/phlow/phlow/engine/Vehicle;Lcom/example/phlow/phlow/engine/Vehicle;Lcom/example/phlow/phlow/engine/Vehicle;)Lcom/example/phlow/phlow/engine/Vehicle;"⟩ : MethodName)) (rest := [(.ref b19)]) hown (hw _ (List.mem_of_getElem? (i := 91) rfl)) (hw _ (List.mem_of_getElem? (i := 92) rfl)) (hw _ (List.mem_of_getElem? (i := 94) rfl)) (hw _ (List.mem_of_getElem? (i := 93) rfl)) (by decide) (rm8 l Z a0 hw [] n6 b10 b13 b16 x34 h28 n0 Z0 hx_x34) eH28 (by rw [hml]; rfl) (argsL := [(.int n6), (.ref b10), (.ref b13), (.ref b16)]) rfl (lenOf pd_6 rfl) rfl at_194 (pc' := 197) rfl (by decide) (W := 1) (Nat.le_of_eq rfl) (by decide) (by decide) (by decide) (fun T35 h35 Lc35 v35r X35 eH35 hQ35 => ?_)
                obtain ⟨rfl, Nq35, rfl⟩ := hQ35
                have N35 := Fr.app N28 Nq35
                have E_x34 : Exa Z h28 x34 "com/example/phlow/phlow/engine/Vehicle" := own_of (P := fun r => Exa Z h28 r "com/example/phlow/phlow/engine/Vehicle") hx_x34 E_b10 E_b13 E_b16
                have F_x34_pos : Fld Z h28 x34 "com/example/phlow/phlow/engine/Vehicle" "pos" "D" (.double (0 : UInt64)) := own_of (P := fun r => Fld Z h28 r "com/example/phlow/phlow/engine/Vehicle" "pos" "D" (.double (0 : UInt64))) hx_x34 F_b10_pos F_b13_pos F_b16_pos
                have ne_x34_b19 : x34 ≠ b19 := own_of (P := fun r => r ≠ b19) hx_x34 ne_b10_b19 ne_b13_b19 ne_b16_b19
                have ne_x34_b2_20 : x34 ≠ b2_20 := own_of (P := fun r => r ≠ b2_20) hx_x34 ne_b10_b2_20 ne_b13_b2_20 ne_b16_b2_20
                refine own_virtual X35 hx hby hZ (y := (⟨"com/example/phlow/phlow/engine/Lane", "indexOf", "(Lcom/example/phlow/phlow/engine/Vehicle;)I"⟩ : MethodName)) (y' := (⟨"com/example/phlow/phlow/engine/Lane", "indexOf", "(Lcom/example/phlow/phlow/engine/Vehicle;)I"⟩ : MethodName)) (C := "com/example/phlow/phlow/engine/Lane") (rest := []) hown (hw _ (List.mem_of_getElem? (i := 95) rfl)) (hw _ (List.mem_of_getElem? (i := 96) rfl)) (notFace_of_selects (args := #[]) (mvT hZ (hw _ (List.mem_of_getElem? (i := 98) rfl)))) (hw _ (List.mem_of_getElem? (i := 98) rfl)) (hw _ (List.mem_of_getElem? (i := 97) rfl)) (hw _ (List.mem_of_getElem? (i := 99) rfl)) (hw _ (List.mem_of_getElem? (i := 78) rfl)) (by decide) (rm9s1 l Z a0 hw [] b19 x34 b2_20 p5 (p5 ^^^ p0) x26 h28 n0 Z0 F_b19_vehicles F_b19_link F_b19_part F_b19_size V_b2_20) eH35 (by rw [hml]; rfl) (a := b19) E_b19 (argsL := [(.ref x34)]) rfl (lenOf pd_7 rfl) rfl at_197 (pc' := 200) rfl (by decide) (W := 0) (Nat.le_of_eq rfl) (by decide) (by decide) (by decide) (fun T36 h36 Lc36 v36r X36 eH36 hQ36 => ?_)
                obtain ⟨rfl, Nq36, rfl⟩ := hQ36
                have N36 := Fr.app N35 Nq36
                dsimp only [Option.toList, List.cons_append, List.nil_append]
                generalize q_r37 : (if x26 = x34 then (0 : Int32) else (-1 : Int32)) = r37
                refine own_istore X36 hx hby (L' := #[.val (.int p0), .val (.int p1), .val (.int p2), .val (.int p3), .val (.int p4), .val (.int p5), .val (.int (1 : Int32)), .val (.int n3), .val (.int n4), .val (.int n5), .val (.int n6), .val (.ref b7), .val (.ref b10), .val (.ref b13), .val (.ref b16), .val (.ref b19), .val (.int r37), .unset]) rfl at_200 (pc' := 202) rfl ?_
                refine own_iconst X36 hx hby (v := (-1 : Int32)) (by decide) at_202 (pc' := 203) rfl ?_
                refine own_istore X36 hx hby (L' := #[.val (.int p0), .val (.int p1), .val (.int p2), .val (.int p3), .val (.int p4), .val (.int p5), .val (.int (1 : Int32)), .val (.int n3), .val (.int n4), .val (.int n5), .val (.int n6), .val (.ref b7), .val (.ref b10), .val (.ref b13), .val (.ref b16), .val (.ref b19), .val (.int r37), .val (.int (-1 : Int32))]) rfl at_203 (pc' := 205) rfl ?_
                refine own_iload X36 hx hby rfl at_205 (pc' := 207) rfl ?_
                refine own_iconst X36 hx hby (v := (1 : Int32)) (by decide) at_207 (pc' := 208) rfl ?_
                refine own_icF X36 hx hby at_208 (by decide) (pc' := 211) rfl ?_
                refine own_iload X36 hx hby rfl at_211 (pc' := 213) rfl ?_
                refine own_iload X36 hx hby rfl at_213 (pc' := 215) rfl ?_
                obtain ⟨w38, q_w38⟩ : ∃ z : Int32, (if n3 = n6 then (0 : Int32) else (-1 : Int32)) = z := ⟨_, rfl⟩
                refine own_join (S' := T36.setTop (mkF m 224 #[.val (.int p0), .val (.int p1), .val (.int p2), .val (.int p3), .val (.int p4), .val (.int p5), .val (.int (1 : Int32)), .val (.int n3), .val (.int n4), .val (.int n5), .val (.int n6), .val (.ref b7), .val (.ref b10), .val (.ref b13), .val (.ref b16), .val (.ref b19), .val (.int r37), .val (.int w38)] [])) (fun F' k' => ?_) ?_
                · rw [← q_w38] at k'
                  by_cases hc39 : n3 = n6
                  · simp only [if_pos hc39] at k'
                    refine own_icF X36 hx hby at_215 (own_ic_ne_p hc39) (pc' := 218) rfl ?_
                    refine own_iload X36 hx hby rfl at_218 (pc' := 220) rfl ?_
                    refine own_iconst X36 hx hby (v := (1 : Int32)) (by decide) at_220 (pc' := 221) rfl ?_
                    refine own_isub X36 hx hby (v := (0 : Int32)) (by decide) at_221 (pc' := 222) rfl ?_
                    refine own_istore X36 hx hby (L' := #[.val (.int p0), .val (.int p1), .val (.int p2), .val (.int p3), .val (.int p4), .val (.int p5), .val (.int (1 : Int32)), .val (.int n3), .val (.int n4), .val (.int n5), .val (.int n6), .val (.ref b7), .val (.ref b10), .val (.ref b13), .val (.ref b16), .val (.ref b19), .val (.int r37), .val (.int (0 : Int32))]) rfl at_222 (pc' := 224) rfl ?_
                    exact k'
                  · simp only [if_neg hc39] at k'
                    refine own_icT X36 hx hby at_215 (own_ic_ne_n hc39) (by decide) (pc' := 224) (by decide) ?_
                    exact k'
                refine own_iload X36 hx hby rfl at_224 (pc' := 226) rfl ?_
                refine own_iconst X36 hx hby (v := (2 : Int32)) (by decide) at_226 (pc' := 227) rfl ?_
                refine own_icT X36 hx hby at_227 (by decide) (by decide) (pc' := 243) (by decide) ?_
                refine own_iload X36 hx hby rfl at_243 (pc' := 245) rfl ?_
                refine own_iconst X36 hx hby (v := (3 : Int32)) (by decide) at_245 (pc' := 246) rfl ?_
                refine own_icT X36 hx hby at_246 (by decide) (by decide) (pc' := 262) (by decide) ?_
                refine own_iload X36 hx hby rfl at_262 (pc' := 264) rfl ?_
                refine own_iload X36 hx hby rfl at_264 (pc' := 266) rfl ?_
                have hk40 : r37 = w38 := by rw [← q_r37, ← q_w38]; exact (own_iteq (own_iff hx_x26 hx_x34 ne_b10_b13 ne_b10_b16 ne_b13_b16) rfl)
                refine own_icF X36 hx hby at_266 (own_ic_ne_p hk40) (pc' := 269) rfl ?_
                refine own_iconst X36 hx hby (v := (1 : Int32)) (by decide) at_269 (pc' := 270) rfl ?_
                refine own_goto X36 hx hby at_270 (by decide) (pc' := 274) (by decide) ?_
                exact own_retZW X36 hx hby Bd.notSynchronized Bd.returns (Or.inr rfl) at_274 (by decide) (by decide) eH36 hS hk ⟨rfl, N36⟩
          · as_aux_lemma =>
              refine own_iload X20 hx hby rfl at_115 (pc' := 117) rfl ?_
              refine own_iconst X20 hx hby (v := (1 : Int32)) (by decide) at_117 (pc' := 118) rfl ?_
              refine own_icF X20 hx hby at_118 (by decide) (pc' := 121) rfl ?_
              refine own_aload X20 hx hby rfl rfl at_121 (pc' := 123) rfl ?_
              refine own_iload X20 hx hby rfl at_123 (pc' := 125) rfl ?_
              refine own_aload X20 hx hby rfl rfl at_125 (pc' := 127) rfl ?_
              refine own_aload X20 hx hby rfl rfl at_127 (pc' := 129) rfl ?_
              refine own_aload X20 hx hby rfl rfl at_129 (pc' := 131) rfl ?_
              have hc_x41 := own_c3 q_n3
              obtain ⟨x41, hx_x41⟩ := own_ex (a := b10) (b := b13) (d := b16) hc_x41
              refine own_static X20 hx hby hZ (y := (⟨"com/example/phlow/phlow/engine/LaneIndexOfPinLaw", "pick", "(ILcom/example/phlow/phlow/engine/Vehicle;Lcom/example/phlow/phlow/engine/Vehicle;Lcom/example/phlow/phlow/engine/Vehicle;)Lcom/example/phlow/phlow/engine/Vehicle;"⟩ : MethodName)) (rest := [(.ref b19)]) hown (hw _ (List.mem_of_getElem? (i := 91) rfl)) (hw _ (List.mem_of_getElem? (i := 92) rfl)) (hw _ (List.mem_of_getElem? (i := 94) rfl)) (hw _ (List.mem_of_getElem? (i := 93) rfl)) (by decide) (rm8 l Z a0 hw [] n3 b10 b13 b16 x41 h20 n0 Z0 hx_x41) eH20 (by rw [hml]; rfl) (argsL := [(.int n3), (.ref b10), (.ref b13), (.ref b16)]) rfl (lenOf pd_6 rfl) rfl at_131 (pc' := 134) rfl (by decide) (W := 1) (Nat.le_of_eq rfl) (by decide) (by decide) (by decide) (fun T42 h42 Lc42 v42r X42 eH42 hQ42 => ?_)
              obtain ⟨rfl, Nq42, rfl⟩ := hQ42
              have N42 := Fr.app N20 Nq42
              have E_x41 : Exa Z h20 x41 "com/example/phlow/phlow/engine/Vehicle" := own_of (P := fun r => Exa Z h20 r "com/example/phlow/phlow/engine/Vehicle") hx_x41 E_b10 E_b13 E_b16
              have F_x41_pos : Fld Z h20 x41 "com/example/phlow/phlow/engine/Vehicle" "pos" "D" (.double (0 : UInt64)) := own_of (P := fun r => Fld Z h20 r "com/example/phlow/phlow/engine/Vehicle" "pos" "D" (.double (0 : UInt64))) hx_x41 F_b10_pos F_b13_pos F_b16_pos
              have ne_x41_b19 : x41 ≠ b19 := own_of (P := fun r => r ≠ b19) hx_x41 ne_b10_b19 ne_b13_b19 ne_b16_b19
              have ne_x41_b2_20 : x41 ≠ b2_20 := own_of (P := fun r => r ≠ b2_20) hx_x41 ne_b10_b2_20 ne_b13_b2_20 ne_b16_b2_20
              refine own_virtual X42 hx hby hZ (y := (⟨"com/example/phlow/phlow/engine/Lane", "insert", "(Lcom/example/phlow/phlow/engine/Vehicle;)I"⟩ : MethodName)) (y' := (⟨"com/example/phlow/phlow/engine/Lane", "insert", "(Lcom/example/phlow/phlow/engine/Vehicle;)I"⟩ : MethodName)) (C := "com/example/phlow/phlow/engine/Lane") (rest := []) hown (hw _ (List.mem_of_getElem? (i := 102) rfl)) (hw _ (List.mem_of_getElem? (i := 103) rfl)) (notFace_of_selects (args := #[]) (mvT hZ (hw _ (List.mem_of_getElem? (i := 105) rfl)))) (hw _ (List.mem_of_getElem? (i := 105) rfl)) (hw _ (List.mem_of_getElem? (i := 104) rfl)) (hw _ (List.mem_of_getElem? (i := 106) rfl)) (hw _ (List.mem_of_getElem? (i := 78) rfl)) (by decide) (rm10s0 l Z a0 hw [] b19 x41 b2_20 p5 (p5 ^^^ p0) h20 n0 Z0 F_b19_vehicles F_b19_link F_b19_part F_b19_size V_b2_20 E_x41 F_x41_pos E_b19 g_b2_20 ne_b19_b2_20 ne_x41_b2_20 g_b19 ne_x41_b19) eH42 (by rw [hml]; rfl) (a := b19) E_b19 (argsL := [(.ref x41)]) rfl (lenOf pd_7 rfl) rfl at_134 (pc' := 137) rfl (by decide) (W := 0) (Nat.le_of_eq rfl) (by decide) (by decide) (by decide) (fun T43 h43 Lc43 v43r X43 eH43 hQ43 => ?_)
              obtain ⟨rfl, Nq43, Kq43, gq43_0, gq43_1, gq43_2, gq43_3, gq43_4, gq43_5⟩ := hQ43
              have N43 := Fr.app N42 Nq43
              replace E_b7 := E_b7.keep Kq43
              replace F_b7_vehicle := F_b7_vehicle.keep Kq43 (ninS ne_b7_b2_20 (ninS ne_b7_b19 nin0))
              replace F_b7_from := F_b7_from.keep Kq43 (ninS ne_b7_b2_20 (ninS ne_b7_b19 nin0))
              replace F_b7_to := F_b7_to.keep Kq43 (ninS ne_b7_b2_20 (ninS ne_b7_b19 nin0))
              replace F_b7_depart := F_b7_depart.keep Kq43 (ninS ne_b7_b2_20 (ninS ne_b7_b19 nin0))
              replace F_b7_maxSpeed := F_b7_maxSpeed.keep Kq43 (ninS ne_b7_b2_20 (ninS ne_b7_b19 nin0))
              replace E_b10 := E_b10.keep Kq43
              replace F_b10_departedAt := F_b10_departedAt.keep Kq43 (ninS ne_b10_b2_20 (ninS ne_b10_b19 nin0))
              replace F_b10_arrivedAt := F_b10_arrivedAt.keep Kq43 (ninS ne_b10_b2_20 (ninS ne_b10_b19 nin0))
              replace F_b10_trip := F_b10_trip.keep Kq43 (ninS ne_b10_b2_20 (ninS ne_b10_b19 nin0))
              replace F_b10_id := F_b10_id.keep Kq43 (ninS ne_b10_b2_20 (ninS ne_b10_b19 nin0))
              replace F_b10_maxSpeed := F_b10_maxSpeed.keep Kq43 (ninS ne_b10_b2_20 (ninS ne_b10_b19 nin0))
              replace F_b10_route := F_b10_route.keep Kq43 (ninS ne_b10_b2_20 (ninS ne_b10_b19 nin0))
              replace F_b10_link := F_b10_link.keep Kq43 (ninS ne_b10_b2_20 (ninS ne_b10_b19 nin0))
              replace F_b10_nextLink := F_b10_nextLink.keep Kq43 (ninS ne_b10_b2_20 (ninS ne_b10_b19 nin0))
              replace F_b10_pos := F_b10_pos.keep Kq43 (ninS ne_b10_b2_20 (ninS ne_b10_b19 nin0))
              replace E_b11 := E_b11.keep Kq43
              replace V_b11 := V_b11.keep Kq43 (ninS ne_b11_b2_20 (ninS ne_b11_b19 nin0))
              replace E_b9_12 := E_b9_12.keep Kq43
              replace V_b9_12 := V_b9_12.keep Kq43 (ninS ne_b9_12_b2_20 (ninS ne_b9_12_b19 nin0))
              replace E_b13 := E_b13.keep Kq43
              replace F_b13_departedAt := F_b13_departedAt.keep Kq43 (ninS ne_b13_b2_20 (ninS ne_b13_b19 nin0))
              replace F_b13_arrivedAt := F_b13_arrivedAt.keep Kq43 (ninS ne_b13_b2_20 (ninS ne_b13_b19 nin0))
              replace F_b13_trip := F_b13_trip.keep Kq43 (ninS ne_b13_b2_20 (ninS ne_b13_b19 nin0))
              replace F_b13_id := F_b13_id.keep Kq43 (ninS ne_b13_b2_20 (ninS ne_b13_b19 nin0))
              replace F_b13_maxSpeed := F_b13_maxSpeed.keep Kq43 (ninS ne_b13_b2_20 (ninS ne_b13_b19 nin0))
              replace F_b13_route := F_b13_route.keep Kq43 (ninS ne_b13_b2_20 (ninS ne_b13_b19 nin0))
              replace F_b13_link := F_b13_link.keep Kq43 (ninS ne_b13_b2_20 (ninS ne_b13_b19 nin0))
              replace F_b13_nextLink := F_b13_nextLink.keep Kq43 (ninS ne_b13_b2_20 (ninS ne_b13_b19 nin0))
              replace F_b13_pos := F_b13_pos.keep Kq43 (ninS ne_b13_b2_20 (ninS ne_b13_b19 nin0))
              replace E_b14 := E_b14.keep Kq43
              replace V_b14 := V_b14.keep Kq43 (ninS ne_b14_b2_20 (ninS ne_b14_b19 nin0))
              replace E_b9_15 := E_b9_15.keep Kq43
              replace V_b9_15 := V_b9_15.keep Kq43 (ninS ne_b9_15_b2_20 (ninS ne_b9_15_b19 nin0))
              replace E_b16 := E_b16.keep Kq43
              replace F_b16_departedAt := F_b16_departedAt.keep Kq43 (ninS ne_b16_b2_20 (ninS ne_b16_b19 nin0))
              replace F_b16_arrivedAt := F_b16_arrivedAt.keep Kq43 (ninS ne_b16_b2_20 (ninS ne_b16_b19 nin0))
              replace F_b16_trip := F_b16_trip.keep Kq43 (ninS ne_b16_b2_20 (ninS ne_b16_b19 nin0))
              replace F_b16_id := F_b16_id.keep Kq43 (ninS ne_b16_b2_20 (ninS ne_b16_b19 nin0))
              replace F_b16_maxSpeed := F_b16_maxSpeed.keep Kq43 (ninS ne_b16_b2_20 (ninS ne_b16_b19 nin0))
              replace F_b16_route := F_b16_route.keep Kq43 (ninS ne_b16_b2_20 (ninS ne_b16_b19 nin0))
              replace F_b16_link := F_b16_link.keep Kq43 (ninS ne_b16_b2_20 (ninS ne_b16_b19 nin0))
              replace F_b16_nextLink := F_b16_nextLink.keep Kq43 (ninS ne_b16_b2_20 (ninS ne_b16_b19 nin0))
              replace F_b16_pos := F_b16_pos.keep Kq43 (ninS ne_b16_b2_20 (ninS ne_b16_b19 nin0))
              replace E_b17 := E_b17.keep Kq43
              replace V_b17 := V_b17.keep Kq43 (ninS ne_b17_b2_20 (ninS ne_b17_b19 nin0))
              replace E_b9_18 := E_b9_18.keep Kq43
              replace V_b9_18 := V_b9_18.keep Kq43 (ninS ne_b9_18_b2_20 (ninS ne_b9_18_b19 nin0))
              replace E_b19 := E_b19.keep Kq43
              replace E_b2_20 := E_b2_20.keep Kq43
              replace E_x41 := E_x41.keep Kq43
              replace F_x41_pos := F_x41_pos.keep Kq43 (ninS ne_x41_b2_20 (ninS ne_x41_b19 nin0))
              have V_b2_20 := gq43_0
              have E_b19 := gq43_1
              have F_b19_vehicles := gq43_2
              have F_b19_link := gq43_3
              have F_b19_part := gq43_4
              have F_b19_size := gq43_5
              replace Z0 := Nat.le_trans Z0 Kq43.1
              replace hk := Nat.le_trans hk Kq43.1
              refine own_pop X43 hx hby rfl at_137 (pc' := 138) rfl ?_
              refine own_iload X43 hx hby rfl at_138 (pc' := 140) rfl ?_
              refine own_iconst X43 hx hby (v := (2 : Int32)) (by decide) at_140 (pc' := 141) rfl ?_
              refine own_icF X43 hx hby at_141 (by decide) (pc' := 144) rfl ?_
              refine own_aload X43 hx hby rfl rfl at_144 (pc' := 146) rfl ?_
              refine own_iload X43 hx hby rfl at_146 (pc' := 148) rfl ?_
              refine own_aload X43 hx hby rfl rfl at_148 (pc' := 150) rfl ?_
              refine own_aload X43 hx hby rfl rfl at_150 (pc' := 152) rfl ?_
              refine own_aload X43 hx hby rfl rfl at_152 (pc' := 154) rfl ?_
              have hc_x44 := own_c3 q_n4
              obtain ⟨x44, hx_x44⟩ := own_ex (a := b10) (b := b13) (d := b16) hc_x44
              refine own_static X43 hx hby hZ (y := (⟨"com/example/phlow/phlow/engine/LaneIndexOfPinLaw", "pick", "(ILcom/example/phlow/phlow/engine/Vehicle;Lcom/example/phlow/phlow/engine/Vehicle;Lcom/example/phlow/phlow/engine/Vehicle;)Lcom/example/phlow/phlow/engine/Vehicle;"⟩ : MethodName)) (rest := [(.ref b19)]) hown (hw _ (List.mem_of_getElem? (i := 91) rfl)) (hw _ (List.mem_of_getElem? (i := 92) rfl)) (hw _ (List.mem_of_getElem? (i := 94) rfl)) (hw _ (List.mem_of_getElem? (i := 93) rfl)) (by decide) (rm8 l Z a0 hw [] n4 b10 b13 b16 x44 h43 n0 Z0 hx_x44) eH43 (by rw [hml]; rfl) (argsL := [(.int n4), (.ref b10), (.ref b13), (.ref b16)]) rfl (lenOf pd_6 rfl) rfl at_154 (pc' := 157) rfl (by decide) (W := 1) (Nat.le_of_eq rfl) (by decide) (by decide) (by decide) (fun T45 h45 Lc45 v45r X45 eH45 hQ45 => ?_)
              obtain ⟨rfl, Nq45, rfl⟩ := hQ45
              have N45 := Fr.app N43 Nq45
              have E_x44 : Exa Z h43 x44 "com/example/phlow/phlow/engine/Vehicle" := own_of (P := fun r => Exa Z h43 r "com/example/phlow/phlow/engine/Vehicle") hx_x44 E_b10 E_b13 E_b16
              have F_x44_pos : Fld Z h43 x44 "com/example/phlow/phlow/engine/Vehicle" "pos" "D" (.double (0 : UInt64)) := own_of (P := fun r => Fld Z h43 r "com/example/phlow/phlow/engine/Vehicle" "pos" "D" (.double (0 : UInt64))) hx_x44 F_b10_pos F_b13_pos F_b16_pos
              have ne_x44_b19 : x44 ≠ b19 := own_of (P := fun r => r ≠ b19) hx_x44 ne_b10_b19 ne_b13_b19 ne_b16_b19
              have ne_x44_b2_20 : x44 ≠ b2_20 := own_of (P := fun r => r ≠ b2_20) hx_x44 ne_b10_b2_20 ne_b13_b2_20 ne_b16_b2_20
              refine own_virtual X45 hx hby hZ (y := (⟨"com/example/phlow/phlow/engine/Lane", "insert", "(Lcom/example/phlow/phlow/engine/Vehicle;)I"⟩ : MethodName)) (y' := (⟨"com/example/phlow/phlow/engine/Lane", "insert", "(Lcom/example/phlow/phlow/engine/Vehicle;)I"⟩ : MethodName)) (C := "com/example/phlow/phlow/engine/Lane") (rest := []) hown (hw _ (List.mem_of_getElem? (i := 102) rfl)) (hw _ (List.mem_of_getElem? (i := 103) rfl)) (notFace_of_selects (args := #[]) (mvT hZ (hw _ (List.mem_of_getElem? (i := 105) rfl)))) (hw _ (List.mem_of_getElem? (i := 105) rfl)) (hw _ (List.mem_of_getElem? (i := 104) rfl)) (hw _ (List.mem_of_getElem? (i := 106) rfl)) (hw _ (List.mem_of_getElem? (i := 78) rfl)) (by decide) (rm10s1 l Z a0 hw [] b19 x44 b2_20 p5 (p5 ^^^ p0) x41 h43 n0 Z0 F_b19_vehicles F_b19_link F_b19_part F_b19_size V_b2_20 E_x41 F_x41_pos E_x44 F_x44_pos E_b19 g_b2_20 ne_b19_b2_20 ne_x44_b2_20 ne_x41_b2_20 g_b19 ne_x44_b19 ne_x41_b19) eH45 (by rw [hml]; rfl) (a := b19) E_b19 (argsL := [(.ref x44)]) rfl (lenOf pd_7 rfl) rfl at_157 (pc' := 160) rfl (by decide) (W := 0) (Nat.le_of_eq rfl) (by decide) (by decide) (by decide) (fun T46 h46 Lc46 v46r X46 eH46 hQ46 => ?_)
              obtain ⟨rfl, Nq46, Kq46, gq46_0, gq46_1, gq46_2, gq46_3, gq46_4, gq46_5⟩ := hQ46
              have N46 := Fr.app N45 Nq46
              replace E_b7 := E_b7.keep Kq46
              replace F_b7_vehicle := F_b7_vehicle.keep Kq46 (ninS ne_b7_b2_20 (ninS ne_b7_b19 nin0))
              replace F_b7_from := F_b7_from.keep Kq46 (ninS ne_b7_b2_20 (ninS ne_b7_b19 nin0))
              replace F_b7_to := F_b7_to.keep Kq46 (ninS ne_b7_b2_20 (ninS ne_b7_b19 nin0))
              replace F_b7_depart := F_b7_depart.keep Kq46 (ninS ne_b7_b2_20 (ninS ne_b7_b19 nin0))
              replace F_b7_maxSpeed := F_b7_maxSpeed.keep Kq46 (ninS ne_b7_b2_20 (ninS ne_b7_b19 nin0))
              replace E_b10 := E_b10.keep Kq46
              replace F_b10_departedAt := F_b10_departedAt.keep Kq46 (ninS ne_b10_b2_20 (ninS ne_b10_b19 nin0))
              replace F_b10_arrivedAt := F_b10_arrivedAt.keep Kq46 (ninS ne_b10_b2_20 (ninS ne_b10_b19 nin0))
              replace F_b10_trip := F_b10_trip.keep Kq46 (ninS ne_b10_b2_20 (ninS ne_b10_b19 nin0))
              replace F_b10_id := F_b10_id.keep Kq46 (ninS ne_b10_b2_20 (ninS ne_b10_b19 nin0))
              replace F_b10_maxSpeed := F_b10_maxSpeed.keep Kq46 (ninS ne_b10_b2_20 (ninS ne_b10_b19 nin0))
              replace F_b10_route := F_b10_route.keep Kq46 (ninS ne_b10_b2_20 (ninS ne_b10_b19 nin0))
              replace F_b10_link := F_b10_link.keep Kq46 (ninS ne_b10_b2_20 (ninS ne_b10_b19 nin0))
              replace F_b10_nextLink := F_b10_nextLink.keep Kq46 (ninS ne_b10_b2_20 (ninS ne_b10_b19 nin0))
              replace F_b10_pos := F_b10_pos.keep Kq46 (ninS ne_b10_b2_20 (ninS ne_b10_b19 nin0))
              replace E_b11 := E_b11.keep Kq46
              replace V_b11 := V_b11.keep Kq46 (ninS ne_b11_b2_20 (ninS ne_b11_b19 nin0))
              replace E_b9_12 := E_b9_12.keep Kq46
              replace V_b9_12 := V_b9_12.keep Kq46 (ninS ne_b9_12_b2_20 (ninS ne_b9_12_b19 nin0))
              replace E_b13 := E_b13.keep Kq46
              replace F_b13_departedAt := F_b13_departedAt.keep Kq46 (ninS ne_b13_b2_20 (ninS ne_b13_b19 nin0))
              replace F_b13_arrivedAt := F_b13_arrivedAt.keep Kq46 (ninS ne_b13_b2_20 (ninS ne_b13_b19 nin0))
              replace F_b13_trip := F_b13_trip.keep Kq46 (ninS ne_b13_b2_20 (ninS ne_b13_b19 nin0))
              replace F_b13_id := F_b13_id.keep Kq46 (ninS ne_b13_b2_20 (ninS ne_b13_b19 nin0))
              replace F_b13_maxSpeed := F_b13_maxSpeed.keep Kq46 (ninS ne_b13_b2_20 (ninS ne_b13_b19 nin0))
              replace F_b13_route := F_b13_route.keep Kq46 (ninS ne_b13_b2_20 (ninS ne_b13_b19 nin0))
              replace F_b13_link := F_b13_link.keep Kq46 (ninS ne_b13_b2_20 (ninS ne_b13_b19 nin0))
              replace F_b13_nextLink := F_b13_nextLink.keep Kq46 (ninS ne_b13_b2_20 (ninS ne_b13_b19 nin0))
              replace F_b13_pos := F_b13_pos.keep Kq46 (ninS ne_b13_b2_20 (ninS ne_b13_b19 nin0))
              replace E_b14 := E_b14.keep Kq46
              replace V_b14 := V_b14.keep Kq46 (ninS ne_b14_b2_20 (ninS ne_b14_b19 nin0))
              replace E_b9_15 := E_b9_15.keep Kq46
              replace V_b9_15 := V_b9_15.keep Kq46 (ninS ne_b9_15_b2_20 (ninS ne_b9_15_b19 nin0))
              replace E_b16 := E_b16.keep Kq46
              replace F_b16_departedAt := F_b16_departedAt.keep Kq46 (ninS ne_b16_b2_20 (ninS ne_b16_b19 nin0))
              replace F_b16_arrivedAt := F_b16_arrivedAt.keep Kq46 (ninS ne_b16_b2_20 (ninS ne_b16_b19 nin0))
              replace F_b16_trip := F_b16_trip.keep Kq46 (ninS ne_b16_b2_20 (ninS ne_b16_b19 nin0))
              replace F_b16_id := F_b16_id.keep Kq46 (ninS ne_b16_b2_20 (ninS ne_b16_b19 nin0))
              replace F_b16_maxSpeed := F_b16_maxSpeed.keep Kq46 (ninS ne_b16_b2_20 (ninS ne_b16_b19 nin0))
              replace F_b16_route := F_b16_route.keep Kq46 (ninS ne_b16_b2_20 (ninS ne_b16_b19 nin0))
              replace F_b16_link := F_b16_link.keep Kq46 (ninS ne_b16_b2_20 (ninS ne_b16_b19 nin0))
              replace F_b16_nextLink := F_b16_nextLink.keep Kq46 (ninS ne_b16_b2_20 (ninS ne_b16_b19 nin0))
              replace F_b16_pos := F_b16_pos.keep Kq46 (ninS ne_b16_b2_20 (ninS ne_b16_b19 nin0))
              replace E_b17 := E_b17.keep Kq46
              replace V_b17 := V_b17.keep Kq46 (ninS ne_b17_b2_20 (ninS ne_b17_b19 nin0))
              replace E_b9_18 := E_b9_18.keep Kq46
              replace V_b9_18 := V_b9_18.keep Kq46 (ninS ne_b9_18_b2_20 (ninS ne_b9_18_b19 nin0))
              replace E_b19 := E_b19.keep Kq46
              replace E_b2_20 := E_b2_20.keep Kq46
              replace E_x41 := E_x41.keep Kq46
              replace F_x41_pos := F_x41_pos.keep Kq46 (ninS ne_x41_b2_20 (ninS ne_x41_b19 nin0))
              replace E_x44 := E_x44.keep Kq46
              replace F_x44_pos := F_x44_pos.keep Kq46 (ninS ne_x44_b2_20 (ninS ne_x44_b19 nin0))
              have V_b2_20 := gq46_0
              have E_b19 := gq46_1
              have F_b19_vehicles := gq46_2
              have F_b19_link := gq46_3
              have F_b19_part := gq46_4
              have F_b19_size := gq46_5
              replace Z0 := Nat.le_trans Z0 Kq46.1
              replace hk := Nat.le_trans hk Kq46.1
              as_aux_lemma =>
                refine own_pop X46 hx hby rfl at_160 (pc' := 161) rfl ?_
                refine own_iload X46 hx hby rfl at_161 (pc' := 163) rfl ?_
                refine own_iconst X46 hx hby (v := (3 : Int32)) (by decide) at_163 (pc' := 164) rfl ?_
                refine own_icT X46 hx hby at_164 (by decide) (by decide) (pc' := 184) (by decide) ?_
                by_cases hq3 : n6 = 3
                · subst hq3
                  refine own_aload X46 hx hby rfl rfl at_184 (pc' := 186) rfl ?_
                  refine own_iload X46 hx hby rfl at_186 (pc' := 188) rfl ?_
                  refine own_aload X46 hx hby rfl rfl at_188 (pc' := 190) rfl ?_
                  refine own_aload X46 hx hby rfl rfl at_190 (pc' := 192) rfl ?_
                  refine own_aload X46 hx hby rfl rfl at_192 (pc' := 194) rfl ?_
                  refine own_static X46 hx hby hZ (y := (⟨"com/example/phlow/phlow/engine/LaneIndexOfPinLaw", "pick", "(ILcom/example/phlow/phlow/engine/Vehicle;Lcom/example/phlow/phlow/engine/Vehicle;Lcom/example/phlow/phlow/engine/Vehicle;)Lcom/example/phlow/phlow/engine/Vehicle;"⟩ : MethodName)) (rest := [(.ref b19)]) hown (hw _ (List.mem_of_getElem? (i := 91) rfl)) (hw _ (List.mem_of_getElem? (i := 92) rfl)) (hw _ (List.mem_of_getElem? (i := 94) rfl)) (hw _ (List.mem_of_getElem? (i := 93) rfl)) (by decide) (rm8n l Z a0 hw [] b10 b13 b16 h46 n0 Z0) eH46 (by rw [hml]; rfl) (argsL := [(.int (3 : Int32)), (.ref b10), (.ref b13), (.ref b16)]) rfl (lenOf pd_6 rfl) rfl at_194 (pc' := 197) rfl (by decide) (W := 1) (Nat.le_of_eq rfl) (by decide) (by decide) (by decide) (fun T47 h47 Lc47 v47r X47 eH47 hQ47 => ?_)
                  obtain ⟨rfl, Nq47, rfl⟩ := hQ47
                  have N47 := Fr.app N46 Nq47
                  refine own_virtual X47 hx hby hZ (y := (⟨"com/example/phlow/phlow/engine/Lane", "indexOf", "(Lcom/example/phlow/phlow/engine/Vehicle;)I"⟩ : MethodName)) (y' := (⟨"com/example/phlow/phlow/engine/Lane", "indexOf", "(Lcom/example/phlow/phlow/engine/Vehicle;)I"⟩ : MethodName)) (C := "com/example/phlow/phlow/engine/Lane") (rest := []) hown (hw _ (List.mem_of_getElem? (i := 95) rfl)) (hw _ (List.mem_of_getElem? (i := 96) rfl)) (notFace_of_selects (args := #[]) (mvT hZ (hw _ (List.mem_of_getElem? (i := 98) rfl)))) (hw _ (List.mem_of_getElem? (i := 98) rfl)) (hw _ (List.mem_of_getElem? (i := 97) rfl)) (hw _ (List.mem_of_getElem? (i := 99) rfl)) (hw _ (List.mem_of_getElem? (i := 78) rfl)) (by decide) (rm9n2 l Z a0 hw [] b19 b2_20 p5 (p5 ^^^ p0) x44 x41 h46 n0 Z0 F_b19_vehicles F_b19_link F_b19_part F_b19_size V_b2_20) eH47 (by rw [hml]; rfl) (a := b19) E_b19 (argsL := [.null]) rfl (lenOf pd_7 rfl) rfl at_197 (pc' := 200) rfl (by decide) (W := 0) (Nat.le_of_eq rfl) (by decide) (by decide) (by decide) (fun T48 h48 Lc48 v48r X48 eH48 hQ48 => ?_)
                  obtain ⟨rfl, Nq48, rfl⟩ := hQ48
                  have N48 := Fr.app N47 Nq48
                  refine own_istore X48 hx hby (L' := #[.val (.int p0), .val (.int p1), .val (.int p2), .val (.int p3), .val (.int p4), .val (.int p5), .val (.int (2 : Int32)), .val (.int n3), .val (.int n4), .val (.int n5), .val (.int (3 : Int32)), .val (.ref b7), .val (.ref b10), .val (.ref b13), .val (.ref b16), .val (.ref b19), .val (.int (-1 : Int32)), .unset]) rfl at_200 (pc' := 202) rfl ?_
                  refine own_iconst X48 hx hby (v := (-1 : Int32)) (by decide) at_202 (pc' := 203) rfl ?_
                  refine own_istore X48 hx hby (L' := #[.val (.int p0), .val (.int p1), .val (.int p2), .val (.int p3), .val (.int p4), .val (.int p5), .val (.int (2 : Int32)), .val (.int n3), .val (.int n4), .val (.int n5), .val (.int (3 : Int32)), .val (.ref b7), .val (.ref b10), .val (.ref b13), .val (.ref b16), .val (.ref b19), .val (.int (-1 : Int32)), .val (.int (-1 : Int32))]) rfl at_203 (pc' := 205) rfl ?_
                  refine own_iload X48 hx hby rfl at_205 (pc' := 207) rfl ?_
                  refine own_iconst X48 hx hby (v := (1 : Int32)) (by decide) at_207 (pc' := 208) rfl ?_
                  refine own_icF X48 hx hby at_208 (by decide) (pc' := 211) rfl ?_
                  refine own_iload X48 hx hby rfl at_211 (pc' := 213) rfl ?_
                  refine own_iload X48 hx hby rfl at_213 (pc' := 215) rfl ?_
                  obtain ⟨w49, q_w49⟩ : ∃ z : Int32, (if n3 = (3 : Int32) then (1 : Int32) else (-1 : Int32)) = z := ⟨_, rfl⟩
                  refine own_join (S' := T48.setTop (mkF m 224 #[.val (.int p0), .val (.int p1), .val (.int p2), .val (.int p3), .val (.int p4), .val (.int p5), .val (.int (2 : Int32)), .val (.int n3), .val (.int n4), .val (.int n5), .val (.int (3 : Int32)), .val (.ref b7), .val (.ref b10), .val (.ref b13), .val (.ref b16), .val (.ref b19), .val (.int (-1 : Int32)), .val (.int w49)] [])) (fun F' k' => ?_) ?_
                  · rw [← q_w49] at k'
                    by_cases hc50 : n3 = (3 : Int32)
                    · simp only [if_pos hc50] at k'
                      refine own_icF X48 hx hby at_215 (own_ic_ne_p hc50) (pc' := 218) rfl ?_
                      refine own_iload X48 hx hby rfl at_218 (pc' := 220) rfl ?_
                      refine own_iconst X48 hx hby (v := (1 : Int32)) (by decide) at_220 (pc' := 221) rfl ?_
                      refine own_isub X48 hx hby (v := (1 : Int32)) (by decide) at_221 (pc' := 222) rfl ?_
                      refine own_istore X48 hx hby (L' := #[.val (.int p0), .val (.int p1), .val (.int p2), .val (.int p3), .val (.int p4), .val (.int p5), .val (.int (2 : Int32)), .val (.int n3), .val (.int n4), .val (.int n5), .val (.int (3 : Int32)), .val (.ref b7), .val (.ref b10), .val (.ref b13), .val (.ref b16), .val (.ref b19), .val (.int (-1 : Int32)), .val (.int (1 : Int32))]) rfl at_222 (pc' := 224) rfl ?_
                      exact k'
                    · simp only [if_neg hc50] at k'
                      refine own_icT X48 hx hby at_215 (own_ic_ne_n hc50) (by decide) (pc' := 224) (by decide) ?_
                      exact k'
                  refine own_iload X48 hx hby rfl at_224 (pc' := 226) rfl ?_
                  refine own_iconst X48 hx hby (v := (2 : Int32)) (by decide) at_226 (pc' := 227) rfl ?_
                  refine own_icF X48 hx hby at_227 (by decide) (pc' := 230) rfl ?_
                  refine own_iload X48 hx hby rfl at_230 (pc' := 232) rfl ?_
                  refine own_iload X48 hx hby rfl at_232 (pc' := 234) rfl ?_
                  obtain ⟨w51, q_w51⟩ : ∃ z : Int32, (if n4 = (3 : Int32) then (0 : Int32) else w49) = z := ⟨_, rfl⟩
                  refine own_join (S' := T48.setTop (mkF m 243 #[.val (.int p0), .val (.int p1), .val (.int p2), .val (.int p3), .val (.int p4), .val (.int p5), .val (.int (2 : Int32)), .val (.int n3), .val (.int n4), .val (.int n5), .val (.int (3 : Int32)), .val (.ref b7), .val (.ref b10), .val (.ref b13), .val (.ref b16), .val (.ref b19), .val (.int (-1 : Int32)), .val (.int w51)] [])) (fun F' k' => ?_) ?_
                  · rw [← q_w51] at k'
                    by_cases hc52 : n4 = (3 : Int32)
                    · simp only [if_pos hc52] at k'
                      refine own_icF X48 hx hby at_234 (own_ic_ne_p hc52) (pc' := 237) rfl ?_
                      refine own_iload X48 hx hby rfl at_237 (pc' := 239) rfl ?_
                      refine own_iconst X48 hx hby (v := (2 : Int32)) (by decide) at_239 (pc' := 240) rfl ?_
                      refine own_isub X48 hx hby (v := (0 : Int32)) (by decide) at_240 (pc' := 241) rfl ?_
                      refine own_istore X48 hx hby (L' := #[.val (.int p0), .val (.int p1), .val (.int p2), .val (.int p3), .val (.int p4), .val (.int p5), .val (.int (2 : Int32)), .val (.int n3), .val (.int n4), .val (.int n5), .val (.int (3 : Int32)), .val (.ref b7), .val (.ref b10), .val (.ref b13), .val (.ref b16), .val (.ref b19), .val (.int (-1 : Int32)), .val (.int (0 : Int32))]) rfl at_241 (pc' := 243) rfl ?_
                      exact k'
                    · simp only [if_neg hc52] at k'
                      refine own_icT X48 hx hby at_234 (own_ic_ne_n hc52) (by decide) (pc' := 243) (by decide) ?_
                      exact k'
                  refine own_iload X48 hx hby rfl at_243 (pc' := 245) rfl ?_
                  refine own_iconst X48 hx hby (v := (3 : Int32)) (by decide) at_245 (pc' := 246) rfl ?_
                  refine own_icT X48 hx hby at_246 (by decide) (by decide) (pc' := 262) (by decide) ?_
                  refine own_iload X48 hx hby rfl at_262 (pc' := 264) rfl ?_
                  refine own_iload X48 hx hby rfl at_264 (pc' := 266) rfl ?_
                  have hk53 : (-1 : Int32) = w51 := by rw [← q_w51, ← q_w49]; exact (((if_neg (own_no3 hc_x44)).trans ((if_neg (own_no3 hc_x41)).trans rfl))).symm
                  refine own_icF X48 hx hby at_266 (own_ic_ne_p hk53) (pc' := 269) rfl ?_
                  refine own_iconst X48 hx hby (v := (1 : Int32)) (by decide) at_269 (pc' := 270) rfl ?_
                  refine own_goto X48 hx hby at_270 (by decide) (pc' := 274) (by decide) ?_
                  exact own_retZW X48 hx hby Bd.notSynchronized Bd.returns (Or.inr rfl) at_274 (by decide) (by decide) eH48 hS hk ⟨rfl, N48⟩
                · have hq2 := own_not3 (own_n4 q_n6) hq3
                  refine own_aload X46 hx hby rfl rfl at_184 (pc' := 186) rfl ?_
                  refine own_iload X46 hx hby rfl at_186 (pc' := 188) rfl ?_
                  refine own_aload X46 hx hby rfl rfl at_188 (pc' := 190) rfl ?_
                  refine own_aload X46 hx hby rfl rfl at_190 (pc' := 192) rfl ?_
                  refine own_aload X46 hx hby rfl rfl at_192 (pc' := 194) rfl ?_
                  have hc_x54 := hq2
                  obtain ⟨x54, hx_x54⟩ := own_ex (a := b10) (b := b13) (d := b16) hc_x54
                  refine own_static X46 hx hby hZ (y := (⟨"com/example/phlow/phlow/engine/LaneIndexOfPinLaw", "pick", "(ILcom/example/phlow/phlow/engine/Vehicle;Lcom/example/phlow/phlow/engine/Vehicle;Lcom/example/phlow/phlow/engine/Vehicle;)Lcom/example/phlow/phlow/engine/Vehicle;"⟩ : MethodName)) (rest := [(.ref b19)]) hown (hw _ (List.mem_of_getElem? (i := 91) rfl)) (hw _ (List.mem_of_getElem? (i := 92) rfl)) (hw _ (List.mem_of_getElem? (i := 94) rfl)) (hw _ (List.mem_of_getElem? (i := 93) rfl)) (by decide) (rm8 l Z a0 hw [] n6 b10 b13 b16 x54 h46 n0 Z0 hx_x54) eH46 (by rw [hml]; rfl) (argsL := [(.int n6), (.ref b10), (.ref b13), (.ref b16)]) rfl (lenOf pd_6 rfl) rfl at_194 (pc' := 197) rfl (by decide) (W := 1) (Nat.le_of_eq rfl) (by decide) (by decide) (by decide) (fun T55 h55 Lc55 v55r X55 eH55 hQ55 => ?_)
                  obtain ⟨rfl, Nq55, rfl⟩ := hQ55
                  have N55 := Fr.app N46 Nq55
                  have E_x54 : Exa Z h46 x54 "com/example/phlow/phlow/engine/Vehicle" := own_of (P := fun r => Exa Z h46 r "com/example/phlow/phlow/engine/Vehicle") hx_x54 E_b10 E_b13 E_b16
                  have F_x54_pos : Fld Z h46 x54 "com/example/phlow/phlow/engine/Vehicle" "pos" "D" (.double (0 : UInt64)) := own_of (P := fun r => Fld Z h46 r "com/example/phlow/phlow/engine/Vehicle" "pos" "D" (.double (0 : UInt64))) hx_x54 F_b10_pos F_b13_pos F_b16_pos
                  have ne_x54_b19 : x54 ≠ b19 := own_of (P := fun r => r ≠ b19) hx_x54 ne_b10_b19 ne_b13_b19 ne_b16_b19
                  have ne_x54_b2_20 : x54 ≠ b2_20 := own_of (P := fun r => r ≠ b2_20) hx_x54 ne_b10_b2_20 ne_b13_b2_20 ne_b16_b2_20
                  refine own_virtual X55 hx hby hZ (y := (⟨"com/example/phlow/phlow/engine/Lane", "indexOf", "(Lcom/example/phlow/phlow/engine/Vehicle;)I"⟩ : MethodName)) (y' := (⟨"com/example/phlow/phlow/engine/Lane", "indexOf", "(Lcom/example/phlow/phlow/engine/Vehicle;)I"⟩ : MethodName)) (C := "com/example/phlow/phlow/engine/Lane") (rest := []) hown (hw _ (List.mem_of_getElem? (i := 95) rfl)) (hw _ (List.mem_of_getElem? (i := 96) rfl)) (notFace_of_selects (args := #[]) (mvT hZ (hw _ (List.mem_of_getElem? (i := 98) rfl)))) (hw _ (List.mem_of_getElem? (i := 98) rfl)) (hw _ (List.mem_of_getElem? (i := 97) rfl)) (hw _ (List.mem_of_getElem? (i := 99) rfl)) (hw _ (List.mem_of_getElem? (i := 78) rfl)) (by decide) (rm9s2 l Z a0 hw [] b19 x54 b2_20 p5 (p5 ^^^ p0) x44 x41 h46 n0 Z0 F_b19_vehicles F_b19_link F_b19_part F_b19_size V_b2_20) eH55 (by rw [hml]; rfl) (a := b19) E_b19 (argsL := [(.ref x54)]) rfl (lenOf pd_7 rfl) rfl at_197 (pc' := 200) rfl (by decide) (W := 0) (Nat.le_of_eq rfl) (by decide) (by decide) (by decide) (fun T56 h56 Lc56 v56r X56 eH56 hQ56 => ?_)
                  obtain ⟨rfl, Nq56, rfl⟩ := hQ56
                  have N56 := Fr.app N55 Nq56
                  dsimp only [Option.toList, List.cons_append, List.nil_append]
                  generalize q_r57 : (if x44 = x54 then (0 : Int32) else (if x41 = x54 then (1 : Int32) else (-1 : Int32))) = r57
                  refine own_istore X56 hx hby (L' := #[.val (.int p0), .val (.int p1), .val (.int p2), .val (.int p3), .val (.int p4), .val (.int p5), .val (.int (2 : Int32)), .val (.int n3), .val (.int n4), .val (.int n5), .val (.int n6), .val (.ref b7), .val (.ref b10), .val (.ref b13), .val (.ref b16), .val (.ref b19), .val (.int r57), .unset]) rfl at_200 (pc' := 202) rfl ?_
                  refine own_iconst X56 hx hby (v := (-1 : Int32)) (by decide) at_202 (pc' := 203) rfl ?_
                  refine own_istore X56 hx hby (L' := #[.val (.int p0), .val (.int p1), .val (.int p2), .val (.int p3), .val (.int p4), .val (.int p5), .val (.int (2 : Int32)), .val (.int n3), .val (.int n4), .val (.int n5), .val (.int n6), .val (.ref b7), .val (.ref b10), .val (.ref b13), .val (.ref b16), .val (.ref b19), .val (.int r57), .val (.int (-1 : Int32))]) rfl at_203 (pc' := 205) rfl ?_
                  refine own_iload X56 hx hby rfl at_205 (pc' := 207) rfl ?_
                  refine own_iconst X56 hx hby (v := (1 : Int32)) (by decide) at_207 (pc' := 208) rfl ?_
                  refine own_icF X56 hx hby at_208 (by decide) (pc' := 211) rfl ?_
                  refine own_iload X56 hx hby rfl at_211 (pc' := 213) rfl ?_
                  refine own_iload X56 hx hby rfl at_213 (pc' := 215) rfl ?_
                  obtain ⟨w58, q_w58⟩ : ∃ z : Int32, (if n3 = n6 then (1 : Int32) else (-1 : Int32)) = z := ⟨_, rfl⟩
                  refine own_join (S' := T56.setTop (mkF m 224 #[.val (.int p0), .val (.int p1), .val (.int p2), .val (.int p3), .val (.int p4), .val (.int p5), .val (.int (2 : Int32)), .val (.int n3), .val (.int n4), .val (.int n5), .val (.int n6), .val (.ref b7), .val (.ref b10), .val (.ref b13), .val (.ref b16), .val (.ref b19), .val (.int r57), .val (.int w58)] [])) (fun F' k' => ?_) ?_
                  · rw [← q_w58] at k'
                    by_cases hc59 : n3 = n6
                    · simp only [if_pos hc59] at k'
                      refine own_icF X56 hx hby at_215 (own_ic_ne_p hc59) (pc' := 218) rfl ?_
                      refine own_iload X56 hx hby rfl at_218 (pc' := 220) rfl ?_
                      refine own_iconst X56 hx hby (v := (1 : Int32)) (by decide) at_220 (pc' := 221) rfl ?_
                      refine own_isub X56 hx hby (v := (1 : Int32)) (by decide) at_221 (pc' := 222) rfl ?_
                      refine own_istore X56 hx hby (L' := #[.val (.int p0), .val (.int p1), .val (.int p2), .val (.int p3), .val (.int p4), .val (.int p5), .val (.int (2 : Int32)), .val (.int n3), .val (.int n4), .val (.int n5), .val (.int n6), .val (.ref b7), .val (.ref b10), .val (.ref b13), .val (.ref b16), .val (.ref b19), .val (.int r57), .val (.int (1 : Int32))]) rfl at_222 (pc' := 224) rfl ?_
                      exact k'
                    · simp only [if_neg hc59] at k'
                      refine own_icT X56 hx hby at_215 (own_ic_ne_n hc59) (by decide) (pc' := 224) (by decide) ?_
                      exact k'
                  refine own_iload X56 hx hby rfl at_224 (pc' := 226) rfl ?_
                  refine own_iconst X56 hx hby (v := (2 : Int32)) (by decide) at_226 (pc' := 227) rfl ?_
                  refine own_icF X56 hx hby at_227 (by decide) (pc' := 230) rfl ?_
                  refine own_iload X56 hx hby rfl at_230 (pc' := 232) rfl ?_
                  refine own_iload X56 hx hby rfl at_232 (pc' := 234) rfl ?_
                  obtain ⟨w60, q_w60⟩ : ∃ z : Int32, (if n4 = n6 then (0 : Int32) else w58) = z := ⟨_, rfl⟩
                  refine own_join (S' := T56.setTop (mkF m 243 #[.val (.int p0), .val (.int p1), .val (.int p2), .val (.int p3), .val (.int p4), .val (.int p5), .val (.int (2 : Int32)), .val (.int n3), .val (.int n4), .val (.int n5), .val (.int n6), .val (.ref b7), .val (.ref b10), .val (.ref b13), .val (.ref b16), .val (.ref b19), .val (.int r57), .val (.int w60)] [])) (fun F' k' => ?_) ?_
                  · rw [← q_w60] at k'
                    by_cases hc61 : n4 = n6
                    · simp only [if_pos hc61] at k'
                      refine own_icF X56 hx hby at_234 (own_ic_ne_p hc61) (pc' := 237) rfl ?_
                      as_aux_lemma =>
                        refine own_iload X56 hx hby rfl at_237 (pc' := 239) rfl ?_
                        refine own_iconst X56 hx hby (v := (2 : Int32)) (by decide) at_239 (pc' := 240) rfl ?_
                        refine own_isub X56 hx hby (v := (0 : Int32)) (by decide) at_240 (pc' := 241) rfl ?_
                        refine own_istore X56 hx hby (L' := #[.val (.int p0), .val (.int p1), .val (.int p2), .val (.int p3), .val (.int p4), .val (.int p5), .val (.int (2 : Int32)), .val (.int n3), .val (.int n4), .val (.int n5), .val (.int n6), .val (.ref b7), .val (.ref b10), .val (.ref b13), .val (.ref b16), .val (.ref b19), .val (.int r57), .val (.int (0 : Int32))]) rfl at_241 (pc' := 243) rfl ?_
                        exact k'
                    · simp only [if_neg hc61] at k'
                      refine own_icT X56 hx hby at_234 (own_ic_ne_n hc61) (by decide) (pc' := 243) (by decide) ?_
                      exact k'
                  as_aux_lemma =>
                    refine own_iload X56 hx hby rfl at_243 (pc' := 245) rfl ?_
                    refine own_iconst X56 hx hby (v := (3 : Int32)) (by decide) at_245 (pc' := 246) rfl ?_
                    refine own_icT X56 hx hby at_246 (by decide) (by decide) (pc' := 262) (by decide) ?_
                    refine own_iload X56 hx hby rfl at_262 (pc' := 264) rfl ?_
                    refine own_iload X56 hx hby rfl at_264 (pc' := 266) rfl ?_
                    have hk62 : r57 = w60 := by rw [← q_r57, ← q_w60, ← q_w58]; exact (own_iteq (own_iff hx_x44 hx_x54 ne_b10_b13 ne_b10_b16 ne_b13_b16) (own_iteq (own_iff hx_x41 hx_x54 ne_b10_b13 ne_b10_b16 ne_b13_b16) rfl))
                    refine own_icF X56 hx hby at_266 (own_ic_ne_p hk62) (pc' := 269) rfl ?_
                    refine own_iconst X56 hx hby (v := (1 : Int32)) (by decide) at_269 (pc' := 270) rfl ?_
                    refine own_goto X56 hx hby at_270 (by decide) (pc' := 274) (by decide) ?_
                    exact own_retZW X56 hx hby Bd.notSynchronized Bd.returns (Or.inr rfl) at_274 (by decide) (by decide) eH56 hS hk ⟨rfl, N56⟩
          · as_aux_lemma =>
              refine own_iload X20 hx hby rfl at_115 (pc' := 117) rfl ?_
              refine own_iconst X20 hx hby (v := (1 : Int32)) (by decide) at_117 (pc' := 118) rfl ?_
              refine own_icF X20 hx hby at_118 (by decide) (pc' := 121) rfl ?_
              refine own_aload X20 hx hby rfl rfl at_121 (pc' := 123) rfl ?_
              refine own_iload X20 hx hby rfl at_123 (pc' := 125) rfl ?_
              refine own_aload X20 hx hby rfl rfl at_125 (pc' := 127) rfl ?_
              refine own_aload X20 hx hby rfl rfl at_127 (pc' := 129) rfl ?_
              refine own_aload X20 hx hby rfl rfl at_129 (pc' := 131) rfl ?_
              have hc_x63 := own_c3 q_n3
              obtain ⟨x63, hx_x63⟩ := own_ex (a := b10) (b := b13) (d := b16) hc_x63
              refine own_static X20 hx hby hZ (y := (⟨"com/example/phlow/phlow/engine/LaneIndexOfPinLaw", "pick", "(ILcom/example/phlow/phlow/engine/Vehicle;Lcom/example/phlow/phlow/engine/Vehicle;Lcom/example/phlow/phlow/engine/Vehicle;)Lcom/example/phlow/phlow/engine/Vehicle;"⟩ : MethodName)) (rest := [(.ref b19)]) hown (hw _ (List.mem_of_getElem? (i := 91) rfl)) (hw _ (List.mem_of_getElem? (i := 92) rfl)) (hw _ (List.mem_of_getElem? (i := 94) rfl)) (hw _ (List.mem_of_getElem? (i := 93) rfl)) (by decide) (rm8 l Z a0 hw [] n3 b10 b13 b16 x63 h20 n0 Z0 hx_x63) eH20 (by rw [hml]; rfl) (argsL := [(.int n3), (.ref b10), (.ref b13), (.ref b16)]) rfl (lenOf pd_6 rfl) rfl at_131 (pc' := 134) rfl (by decide) (W := 1) (Nat.le_of_eq rfl) (by decide) (by decide) (by decide) (fun T64 h64 Lc64 v64r X64 eH64 hQ64 => ?_)
              obtain ⟨rfl, Nq64, rfl⟩ := hQ64
              have N64 := Fr.app N20 Nq64
              have E_x63 : Exa Z h20 x63 "com/example/phlow/phlow/engine/Vehicle" := own_of (P := fun r => Exa Z h20 r "com/example/phlow/phlow/engine/Vehicle") hx_x63 E_b10 E_b13 E_b16
              have F_x63_pos : Fld Z h20 x63 "com/example/phlow/phlow/engine/Vehicle" "pos" "D" (.double (0 : UInt64)) := own_of (P := fun r => Fld Z h20 r "com/example/phlow/phlow/engine/Vehicle" "pos" "D" (.double (0 : UInt64))) hx_x63 F_b10_pos F_b13_pos F_b16_pos
              have ne_x63_b19 : x63 ≠ b19 := own_of (P := fun r => r ≠ b19) hx_x63 ne_b10_b19 ne_b13_b19 ne_b16_b19
              have ne_x63_b2_20 : x63 ≠ b2_20 := own_of (P := fun r => r ≠ b2_20) hx_x63 ne_b10_b2_20 ne_b13_b2_20 ne_b16_b2_20
              refine own_virtual X64 hx hby hZ (y := (⟨"com/example/phlow/phlow/engine/Lane", "insert", "(Lcom/example/phlow/phlow/engine/Vehicle;)I"⟩ : MethodName)) (y' := (⟨"com/example/phlow/phlow/engine/Lane", "insert", "(Lcom/example/phlow/phlow/engine/Vehicle;)I"⟩ : MethodName)) (C := "com/example/phlow/phlow/engine/Lane") (rest := []) hown (hw _ (List.mem_of_getElem? (i := 102) rfl)) (hw _ (List.mem_of_getElem? (i := 103) rfl)) (notFace_of_selects (args := #[]) (mvT hZ (hw _ (List.mem_of_getElem? (i := 105) rfl)))) (hw _ (List.mem_of_getElem? (i := 105) rfl)) (hw _ (List.mem_of_getElem? (i := 104) rfl)) (hw _ (List.mem_of_getElem? (i := 106) rfl)) (hw _ (List.mem_of_getElem? (i := 78) rfl)) (by decide) (rm10s0 l Z a0 hw [] b19 x63 b2_20 p5 (p5 ^^^ p0) h20 n0 Z0 F_b19_vehicles F_b19_link F_b19_part F_b19_size V_b2_20 E_x63 F_x63_pos E_b19 g_b2_20 ne_b19_b2_20 ne_x63_b2_20 g_b19 ne_x63_b19) eH64 (by rw [hml]; rfl) (a := b19) E_b19 (argsL := [(.ref x63)]) rfl (lenOf pd_7 rfl) rfl at_134 (pc' := 137) rfl (by decide) (W := 0) (Nat.le_of_eq rfl) (by decide) (by decide) (by decide) (fun T65 h65 Lc65 v65r X65 eH65 hQ65 => ?_)
              obtain ⟨rfl, Nq65, Kq65, gq65_0, gq65_1, gq65_2, gq65_3, gq65_4, gq65_5⟩ := hQ65
              have N65 := Fr.app N64 Nq65
              replace E_b7 := E_b7.keep Kq65
              replace F_b7_vehicle := F_b7_vehicle.keep Kq65 (ninS ne_b7_b2_20 (ninS ne_b7_b19 nin0))
              replace F_b7_from := F_b7_from.keep Kq65 (ninS ne_b7_b2_20 (ninS ne_b7_b19 nin0))
              replace F_b7_to := F_b7_to.keep Kq65 (ninS ne_b7_b2_20 (ninS ne_b7_b19 nin0))
              replace F_b7_depart := F_b7_depart.keep Kq65 (ninS ne_b7_b2_20 (ninS ne_b7_b19 nin0))
              replace F_b7_maxSpeed := F_b7_maxSpeed.keep Kq65 (ninS ne_b7_b2_20 (ninS ne_b7_b19 nin0))
              replace E_b10 := E_b10.keep Kq65
              replace F_b10_departedAt := F_b10_departedAt.keep Kq65 (ninS ne_b10_b2_20 (ninS ne_b10_b19 nin0))
              replace F_b10_arrivedAt := F_b10_arrivedAt.keep Kq65 (ninS ne_b10_b2_20 (ninS ne_b10_b19 nin0))
              replace F_b10_trip := F_b10_trip.keep Kq65 (ninS ne_b10_b2_20 (ninS ne_b10_b19 nin0))
              replace F_b10_id := F_b10_id.keep Kq65 (ninS ne_b10_b2_20 (ninS ne_b10_b19 nin0))
              replace F_b10_maxSpeed := F_b10_maxSpeed.keep Kq65 (ninS ne_b10_b2_20 (ninS ne_b10_b19 nin0))
              replace F_b10_route := F_b10_route.keep Kq65 (ninS ne_b10_b2_20 (ninS ne_b10_b19 nin0))
              replace F_b10_link := F_b10_link.keep Kq65 (ninS ne_b10_b2_20 (ninS ne_b10_b19 nin0))
              replace F_b10_nextLink := F_b10_nextLink.keep Kq65 (ninS ne_b10_b2_20 (ninS ne_b10_b19 nin0))
              replace F_b10_pos := F_b10_pos.keep Kq65 (ninS ne_b10_b2_20 (ninS ne_b10_b19 nin0))
              replace E_b11 := E_b11.keep Kq65
              replace V_b11 := V_b11.keep Kq65 (ninS ne_b11_b2_20 (ninS ne_b11_b19 nin0))
              replace E_b9_12 := E_b9_12.keep Kq65
              replace V_b9_12 := V_b9_12.keep Kq65 (ninS ne_b9_12_b2_20 (ninS ne_b9_12_b19 nin0))
              replace E_b13 := E_b13.keep Kq65
              replace F_b13_departedAt := F_b13_departedAt.keep Kq65 (ninS ne_b13_b2_20 (ninS ne_b13_b19 nin0))
              replace F_b13_arrivedAt := F_b13_arrivedAt.keep Kq65 (ninS ne_b13_b2_20 (ninS ne_b13_b19 nin0))
              replace F_b13_trip := F_b13_trip.keep Kq65 (ninS ne_b13_b2_20 (ninS ne_b13_b19 nin0))
              replace F_b13_id := F_b13_id.keep Kq65 (ninS ne_b13_b2_20 (ninS ne_b13_b19 nin0))
              replace F_b13_maxSpeed := F_b13_maxSpeed.keep Kq65 (ninS ne_b13_b2_20 (ninS ne_b13_b19 nin0))
              replace F_b13_route := F_b13_route.keep Kq65 (ninS ne_b13_b2_20 (ninS ne_b13_b19 nin0))
              replace F_b13_link := F_b13_link.keep Kq65 (ninS ne_b13_b2_20 (ninS ne_b13_b19 nin0))
              replace F_b13_nextLink := F_b13_nextLink.keep Kq65 (ninS ne_b13_b2_20 (ninS ne_b13_b19 nin0))
              replace F_b13_pos := F_b13_pos.keep Kq65 (ninS ne_b13_b2_20 (ninS ne_b13_b19 nin0))
              replace E_b14 := E_b14.keep Kq65
              replace V_b14 := V_b14.keep Kq65 (ninS ne_b14_b2_20 (ninS ne_b14_b19 nin0))
              replace E_b9_15 := E_b9_15.keep Kq65
              replace V_b9_15 := V_b9_15.keep Kq65 (ninS ne_b9_15_b2_20 (ninS ne_b9_15_b19 nin0))
              replace E_b16 := E_b16.keep Kq65
              replace F_b16_departedAt := F_b16_departedAt.keep Kq65 (ninS ne_b16_b2_20 (ninS ne_b16_b19 nin0))
              replace F_b16_arrivedAt := F_b16_arrivedAt.keep Kq65 (ninS ne_b16_b2_20 (ninS ne_b16_b19 nin0))
              replace F_b16_trip := F_b16_trip.keep Kq65 (ninS ne_b16_b2_20 (ninS ne_b16_b19 nin0))
              replace F_b16_id := F_b16_id.keep Kq65 (ninS ne_b16_b2_20 (ninS ne_b16_b19 nin0))
              replace F_b16_maxSpeed := F_b16_maxSpeed.keep Kq65 (ninS ne_b16_b2_20 (ninS ne_b16_b19 nin0))
              replace F_b16_route := F_b16_route.keep Kq65 (ninS ne_b16_b2_20 (ninS ne_b16_b19 nin0))
              replace F_b16_link := F_b16_link.keep Kq65 (ninS ne_b16_b2_20 (ninS ne_b16_b19 nin0))
              replace F_b16_nextLink := F_b16_nextLink.keep Kq65 (ninS ne_b16_b2_20 (ninS ne_b16_b19 nin0))
              replace F_b16_pos := F_b16_pos.keep Kq65 (ninS ne_b16_b2_20 (ninS ne_b16_b19 nin0))
              replace E_b17 := E_b17.keep Kq65
              replace V_b17 := V_b17.keep Kq65 (ninS ne_b17_b2_20 (ninS ne_b17_b19 nin0))
              replace E_b9_18 := E_b9_18.keep Kq65
              replace V_b9_18 := V_b9_18.keep Kq65 (ninS ne_b9_18_b2_20 (ninS ne_b9_18_b19 nin0))
              replace E_b19 := E_b19.keep Kq65
              replace E_b2_20 := E_b2_20.keep Kq65
              replace E_x63 := E_x63.keep Kq65
              replace F_x63_pos := F_x63_pos.keep Kq65 (ninS ne_x63_b2_20 (ninS ne_x63_b19 nin0))
              have V_b2_20 := gq65_0
              have E_b19 := gq65_1
              have F_b19_vehicles := gq65_2
              have F_b19_link := gq65_3
              have F_b19_part := gq65_4
              have F_b19_size := gq65_5
              replace Z0 := Nat.le_trans Z0 Kq65.1
              replace hk := Nat.le_trans hk Kq65.1
              refine own_pop X65 hx hby rfl at_137 (pc' := 138) rfl ?_
              refine own_iload X65 hx hby rfl at_138 (pc' := 140) rfl ?_
              refine own_iconst X65 hx hby (v := (2 : Int32)) (by decide) at_140 (pc' := 141) rfl ?_
              refine own_icF X65 hx hby at_141 (by decide) (pc' := 144) rfl ?_
              refine own_aload X65 hx hby rfl rfl at_144 (pc' := 146) rfl ?_
              refine own_iload X65 hx hby rfl at_146 (pc' := 148) rfl ?_
              refine own_aload X65 hx hby rfl rfl at_148 (pc' := 150) rfl ?_
              refine own_aload X65 hx hby rfl rfl at_150 (pc' := 152) rfl ?_
              refine own_aload X65 hx hby rfl rfl at_152 (pc' := 154) rfl ?_
              have hc_x66 := own_c3 q_n4
              obtain ⟨x66, hx_x66⟩ := own_ex (a := b10) (b := b13) (d := b16) hc_x66
              refine own_static X65 hx hby hZ (y := (⟨"com/example/phlow/phlow/engine/LaneIndexOfPinLaw", "pick", "(ILcom/example/phlow/phlow/engine/Vehicle;Lcom/example/phlow/phlow/engine/Vehicle;Lcom/example/phlow/phlow/engine/Vehicle;)Lcom/example/phlow/phlow/engine/Vehicle;"⟩ : MethodName)) (rest := [(.ref b19)]) hown (hw _ (List.mem_of_getElem? (i := 91) rfl)) (hw _ (List.mem_of_getElem? (i := 92) rfl)) (hw _ (List.mem_of_getElem? (i := 94) rfl)) (hw _ (List.mem_of_getElem? (i := 93) rfl)) (by decide) (rm8 l Z a0 hw [] n4 b10 b13 b16 x66 h65 n0 Z0 hx_x66) eH65 (by rw [hml]; rfl) (argsL := [(.int n4), (.ref b10), (.ref b13), (.ref b16)]) rfl (lenOf pd_6 rfl) rfl at_154 (pc' := 157) rfl (by decide) (W := 1) (Nat.le_of_eq rfl) (by decide) (by decide) (by decide) (fun T67 h67 Lc67 v67r X67 eH67 hQ67 => ?_)
              obtain ⟨rfl, Nq67, rfl⟩ := hQ67
              have N67 := Fr.app N65 Nq67
              have E_x66 : Exa Z h65 x66 "com/example/phlow/phlow/engine/Vehicle" := own_of (P := fun r => Exa Z h65 r "com/example/phlow/phlow/engine/Vehicle") hx_x66 E_b10 E_b13 E_b16
              have F_x66_pos : Fld Z h65 x66 "com/example/phlow/phlow/engine/Vehicle" "pos" "D" (.double (0 : UInt64)) := own_of (P := fun r => Fld Z h65 r "com/example/phlow/phlow/engine/Vehicle" "pos" "D" (.double (0 : UInt64))) hx_x66 F_b10_pos F_b13_pos F_b16_pos
              have ne_x66_b19 : x66 ≠ b19 := own_of (P := fun r => r ≠ b19) hx_x66 ne_b10_b19 ne_b13_b19 ne_b16_b19
              have ne_x66_b2_20 : x66 ≠ b2_20 := own_of (P := fun r => r ≠ b2_20) hx_x66 ne_b10_b2_20 ne_b13_b2_20 ne_b16_b2_20
              refine own_virtual X67 hx hby hZ (y := (⟨"com/example/phlow/phlow/engine/Lane", "insert", "(Lcom/example/phlow/phlow/engine/Vehicle;)I"⟩ : MethodName)) (y' := (⟨"com/example/phlow/phlow/engine/Lane", "insert", "(Lcom/example/phlow/phlow/engine/Vehicle;)I"⟩ : MethodName)) (C := "com/example/phlow/phlow/engine/Lane") (rest := []) hown (hw _ (List.mem_of_getElem? (i := 102) rfl)) (hw _ (List.mem_of_getElem? (i := 103) rfl)) (notFace_of_selects (args := #[]) (mvT hZ (hw _ (List.mem_of_getElem? (i := 105) rfl)))) (hw _ (List.mem_of_getElem? (i := 105) rfl)) (hw _ (List.mem_of_getElem? (i := 104) rfl)) (hw _ (List.mem_of_getElem? (i := 106) rfl)) (hw _ (List.mem_of_getElem? (i := 78) rfl)) (by decide) (rm10s1 l Z a0 hw [] b19 x66 b2_20 p5 (p5 ^^^ p0) x63 h65 n0 Z0 F_b19_vehicles F_b19_link F_b19_part F_b19_size V_b2_20 E_x63 F_x63_pos E_x66 F_x66_pos E_b19 g_b2_20 ne_b19_b2_20 ne_x66_b2_20 ne_x63_b2_20 g_b19 ne_x66_b19 ne_x63_b19) eH67 (by rw [hml]; rfl) (a := b19) E_b19 (argsL := [(.ref x66)]) rfl (lenOf pd_7 rfl) rfl at_157 (pc' := 160) rfl (by decide) (W := 0) (Nat.le_of_eq rfl) (by decide) (by decide) (by decide) (fun T68 h68 Lc68 v68r X68 eH68 hQ68 => ?_)
              obtain ⟨rfl, Nq68, Kq68, gq68_0, gq68_1, gq68_2, gq68_3, gq68_4, gq68_5⟩ := hQ68
              have N68 := Fr.app N67 Nq68
              replace E_b7 := E_b7.keep Kq68
              replace F_b7_vehicle := F_b7_vehicle.keep Kq68 (ninS ne_b7_b2_20 (ninS ne_b7_b19 nin0))
              replace F_b7_from := F_b7_from.keep Kq68 (ninS ne_b7_b2_20 (ninS ne_b7_b19 nin0))
              replace F_b7_to := F_b7_to.keep Kq68 (ninS ne_b7_b2_20 (ninS ne_b7_b19 nin0))
              replace F_b7_depart := F_b7_depart.keep Kq68 (ninS ne_b7_b2_20 (ninS ne_b7_b19 nin0))
              replace F_b7_maxSpeed := F_b7_maxSpeed.keep Kq68 (ninS ne_b7_b2_20 (ninS ne_b7_b19 nin0))
              replace E_b10 := E_b10.keep Kq68
              replace F_b10_departedAt := F_b10_departedAt.keep Kq68 (ninS ne_b10_b2_20 (ninS ne_b10_b19 nin0))
              replace F_b10_arrivedAt := F_b10_arrivedAt.keep Kq68 (ninS ne_b10_b2_20 (ninS ne_b10_b19 nin0))
              replace F_b10_trip := F_b10_trip.keep Kq68 (ninS ne_b10_b2_20 (ninS ne_b10_b19 nin0))
              replace F_b10_id := F_b10_id.keep Kq68 (ninS ne_b10_b2_20 (ninS ne_b10_b19 nin0))
              replace F_b10_maxSpeed := F_b10_maxSpeed.keep Kq68 (ninS ne_b10_b2_20 (ninS ne_b10_b19 nin0))
              replace F_b10_route := F_b10_route.keep Kq68 (ninS ne_b10_b2_20 (ninS ne_b10_b19 nin0))
              replace F_b10_link := F_b10_link.keep Kq68 (ninS ne_b10_b2_20 (ninS ne_b10_b19 nin0))
              replace F_b10_nextLink := F_b10_nextLink.keep Kq68 (ninS ne_b10_b2_20 (ninS ne_b10_b19 nin0))
              replace F_b10_pos := F_b10_pos.keep Kq68 (ninS ne_b10_b2_20 (ninS ne_b10_b19 nin0))
              replace E_b11 := E_b11.keep Kq68
              replace V_b11 := V_b11.keep Kq68 (ninS ne_b11_b2_20 (ninS ne_b11_b19 nin0))
              replace E_b9_12 := E_b9_12.keep Kq68
              replace V_b9_12 := V_b9_12.keep Kq68 (ninS ne_b9_12_b2_20 (ninS ne_b9_12_b19 nin0))
              replace E_b13 := E_b13.keep Kq68
              replace F_b13_departedAt := F_b13_departedAt.keep Kq68 (ninS ne_b13_b2_20 (ninS ne_b13_b19 nin0))
              replace F_b13_arrivedAt := F_b13_arrivedAt.keep Kq68 (ninS ne_b13_b2_20 (ninS ne_b13_b19 nin0))
              replace F_b13_trip := F_b13_trip.keep Kq68 (ninS ne_b13_b2_20 (ninS ne_b13_b19 nin0))
              replace F_b13_id := F_b13_id.keep Kq68 (ninS ne_b13_b2_20 (ninS ne_b13_b19 nin0))
              replace F_b13_maxSpeed := F_b13_maxSpeed.keep Kq68 (ninS ne_b13_b2_20 (ninS ne_b13_b19 nin0))
              replace F_b13_route := F_b13_route.keep Kq68 (ninS ne_b13_b2_20 (ninS ne_b13_b19 nin0))
              replace F_b13_link := F_b13_link.keep Kq68 (ninS ne_b13_b2_20 (ninS ne_b13_b19 nin0))
              replace F_b13_nextLink := F_b13_nextLink.keep Kq68 (ninS ne_b13_b2_20 (ninS ne_b13_b19 nin0))
              replace F_b13_pos := F_b13_pos.keep Kq68 (ninS ne_b13_b2_20 (ninS ne_b13_b19 nin0))
              replace E_b14 := E_b14.keep Kq68
              replace V_b14 := V_b14.keep Kq68 (ninS ne_b14_b2_20 (ninS ne_b14_b19 nin0))
              replace E_b9_15 := E_b9_15.keep Kq68
              replace V_b9_15 := V_b9_15.keep Kq68 (ninS ne_b9_15_b2_20 (ninS ne_b9_15_b19 nin0))
              replace E_b16 := E_b16.keep Kq68
              replace F_b16_departedAt := F_b16_departedAt.keep Kq68 (ninS ne_b16_b2_20 (ninS ne_b16_b19 nin0))
              replace F_b16_arrivedAt := F_b16_arrivedAt.keep Kq68 (ninS ne_b16_b2_20 (ninS ne_b16_b19 nin0))
              replace F_b16_trip := F_b16_trip.keep Kq68 (ninS ne_b16_b2_20 (ninS ne_b16_b19 nin0))
              replace F_b16_id := F_b16_id.keep Kq68 (ninS ne_b16_b2_20 (ninS ne_b16_b19 nin0))
              replace F_b16_maxSpeed := F_b16_maxSpeed.keep Kq68 (ninS ne_b16_b2_20 (ninS ne_b16_b19 nin0))
              replace F_b16_route := F_b16_route.keep Kq68 (ninS ne_b16_b2_20 (ninS ne_b16_b19 nin0))
              replace F_b16_link := F_b16_link.keep Kq68 (ninS ne_b16_b2_20 (ninS ne_b16_b19 nin0))
              replace F_b16_nextLink := F_b16_nextLink.keep Kq68 (ninS ne_b16_b2_20 (ninS ne_b16_b19 nin0))
              replace F_b16_pos := F_b16_pos.keep Kq68 (ninS ne_b16_b2_20 (ninS ne_b16_b19 nin0))
              replace E_b17 := E_b17.keep Kq68
              replace V_b17 := V_b17.keep Kq68 (ninS ne_b17_b2_20 (ninS ne_b17_b19 nin0))
              replace E_b9_18 := E_b9_18.keep Kq68
              replace V_b9_18 := V_b9_18.keep Kq68 (ninS ne_b9_18_b2_20 (ninS ne_b9_18_b19 nin0))
              replace E_b19 := E_b19.keep Kq68
              replace E_b2_20 := E_b2_20.keep Kq68
              replace E_x63 := E_x63.keep Kq68
              replace F_x63_pos := F_x63_pos.keep Kq68 (ninS ne_x63_b2_20 (ninS ne_x63_b19 nin0))
              replace E_x66 := E_x66.keep Kq68
              replace F_x66_pos := F_x66_pos.keep Kq68 (ninS ne_x66_b2_20 (ninS ne_x66_b19 nin0))
              have V_b2_20 := gq68_0
              have E_b19 := gq68_1
              have F_b19_vehicles := gq68_2
              have F_b19_link := gq68_3
              have F_b19_part := gq68_4
              have F_b19_size := gq68_5
              replace Z0 := Nat.le_trans Z0 Kq68.1
              replace hk := Nat.le_trans hk Kq68.1
              as_aux_lemma =>
                refine own_pop X68 hx hby rfl at_160 (pc' := 161) rfl ?_
                refine own_iload X68 hx hby rfl at_161 (pc' := 163) rfl ?_
                refine own_iconst X68 hx hby (v := (3 : Int32)) (by decide) at_163 (pc' := 164) rfl ?_
                refine own_icF X68 hx hby at_164 (by decide) (pc' := 167) rfl ?_
                refine own_aload X68 hx hby rfl rfl at_167 (pc' := 169) rfl ?_
                refine own_iload X68 hx hby rfl at_169 (pc' := 171) rfl ?_
                refine own_aload X68 hx hby rfl rfl at_171 (pc' := 173) rfl ?_
                refine own_aload X68 hx hby rfl rfl at_173 (pc' := 175) rfl ?_
                refine own_aload X68 hx hby rfl rfl at_175 (pc' := 177) rfl ?_
                have hc_x69 := own_c3 q_n5
                obtain ⟨x69, hx_x69⟩ := own_ex (a := b10) (b := b13) (d := b16) hc_x69
                refine own_static X68 hx hby hZ (y := (⟨"com/example/phlow/phlow/engine/LaneIndexOfPinLaw", "pick", "(ILcom/example/phlow/phlow/engine/Vehicle;Lcom/example/phlow/phlow/engine/Vehicle;Lcom/example/phlow/phlow/engine/Vehicle;)Lcom/example/phlow/phlow/engine/Vehicle;"⟩ : MethodName)) (rest := [(.ref b19)]) hown (hw _ (List.mem_of_getElem? (i := 91) rfl)) (hw _ (List.mem_of_getElem? (i := 92) rfl)) (hw _ (List.mem_of_getElem? (i := 94) rfl)) (hw _ (List.mem_of_getElem? (i := 93) rfl)) (by decide) (rm8 l Z a0 hw [] n5 b10 b13 b16 x69 h68 n0 Z0 hx_x69) eH68 (by rw [hml]; rfl) (argsL := [(.int n5), (.ref b10), (.ref b13), (.ref b16)]) rfl (lenOf pd_6 rfl) rfl at_177 (pc' := 180) rfl (by decide) (W := 1) (Nat.le_of_eq rfl) (by decide) (by decide) (by decide) (fun T70 h70 Lc70 v70r X70 eH70 hQ70 => ?_)
                obtain ⟨rfl, Nq70, rfl⟩ := hQ70
                have N70 := Fr.app N68 Nq70
                have E_x69 : Exa Z h68 x69 "com/example/phlow/phlow/engine/Vehicle" := own_of (P := fun r => Exa Z h68 r "com/example/phlow/phlow/engine/Vehicle") hx_x69 E_b10 E_b13 E_b16
                have F_x69_pos : Fld Z h68 x69 "com/example/phlow/phlow/engine/Vehicle" "pos" "D" (.double (0 : UInt64)) := own_of (P := fun r => Fld Z h68 r "com/example/phlow/phlow/engine/Vehicle" "pos" "D" (.double (0 : UInt64))) hx_x69 F_b10_pos F_b13_pos F_b16_pos
                have ne_x69_b19 : x69 ≠ b19 := own_of (P := fun r => r ≠ b19) hx_x69 ne_b10_b19 ne_b13_b19 ne_b16_b19
                have ne_x69_b2_20 : x69 ≠ b2_20 := own_of (P := fun r => r ≠ b2_20) hx_x69 ne_b10_b2_20 ne_b13_b2_20 ne_b16_b2_20
                refine own_virtual X70 hx hby hZ (y := (⟨"com/example/phlow/phlow/engine/Lane", "insert", "(Lcom/example/phlow/phlow/engine/Vehicle;)I"⟩ : MethodName)) (y' := (⟨"com/example/phlow/phlow/engine/Lane", "insert", "(Lcom/example/phlow/phlow/engine/Vehicle;)I"⟩ : MethodName)) (C := "com/example/phlow/phlow/engine/Lane") (rest := []) hown (hw _ (List.mem_of_getElem? (i := 102) rfl)) (hw _ (List.mem_of_getElem? (i := 103) rfl)) (notFace_of_selects (args := #[]) (mvT hZ (hw _ (List.mem_of_getElem? (i := 105) rfl)))) (hw _ (List.mem_of_getElem? (i := 105) rfl)) (hw _ (List.mem_of_getElem? (i := 104) rfl)) (hw _ (List.mem_of_getElem? (i := 106) rfl)) (hw _ (List.mem_of_getElem? (i := 78) rfl)) (by decide) (rm10s2 l Z a0 hw [] b19 x69 b2_20 p5 (p5 ^^^ p0) x66 x63 h68 n0 Z0 F_b19_vehicles F_b19_link F_b19_part F_b19_size V_b2_20 E_x66 F_x66_pos E_x63 F_x63_pos E_x69 F_x69_pos E_b19 g_b2_20 ne_b19_b2_20 ne_x69_b2_20 ne_x66_b2_20 ne_x63_b2_20 g_b19 ne_x69_b19 ne_x66_b19 ne_x63_b19) eH70 (by rw [hml]; rfl) (a := b19) E_b19 (argsL := [(.ref x69)]) rfl (lenOf pd_7 rfl) rfl at_180 (pc' := 183) rfl (by decide) (W := 0) (Nat.le_of_eq rfl) (by decide) (by decide) (by decide) (fun T71 h71 Lc71 v71r X71 eH71 hQ71 => ?_)
                obtain ⟨rfl, Nq71, Kq71, gq71_0, gq71_1, gq71_2, gq71_3, gq71_4, gq71_5⟩ := hQ71
                have N71 := Fr.app N70 Nq71
                replace E_b7 := E_b7.keep Kq71
                replace F_b7_vehicle := F_b7_vehicle.keep Kq71 (ninS ne_b7_b2_20 (ninS ne_b7_b19 nin0))
                replace F_b7_from := F_b7_from.keep Kq71 (ninS ne_b7_b2_20 (ninS ne_b7_b19 nin0))
                replace F_b7_to := F_b7_to.keep Kq71 (ninS ne_b7_b2_20 (ninS ne_b7_b19 nin0))
                replace F_b7_depart := F_b7_depart.keep Kq71 (ninS ne_b7_b2_20 (ninS ne_b7_b19 nin0))
                replace F_b7_maxSpeed := F_b7_maxSpeed.keep Kq71 (ninS ne_b7_b2_20 (ninS ne_b7_b19 nin0))
                replace E_b10 := E_b10.keep Kq71
                replace F_b10_departedAt := F_b10_departedAt.keep Kq71 (ninS ne_b10_b2_20 (ninS ne_b10_b19 nin0))
                replace F_b10_arrivedAt := F_b10_arrivedAt.keep Kq71 (ninS ne_b10_b2_20 (ninS ne_b10_b19 nin0))
                replace F_b10_trip := F_b10_trip.keep Kq71 (ninS ne_b10_b2_20 (ninS ne_b10_b19 nin0))
                replace F_b10_id := F_b10_id.keep Kq71 (ninS ne_b10_b2_20 (ninS ne_b10_b19 nin0))
                replace F_b10_maxSpeed := F_b10_maxSpeed.keep Kq71 (ninS ne_b10_b2_20 (ninS ne_b10_b19 nin0))
                replace F_b10_route := F_b10_route.keep Kq71 (ninS ne_b10_b2_20 (ninS ne_b10_b19 nin0))
                replace F_b10_link := F_b10_link.keep Kq71 (ninS ne_b10_b2_20 (ninS ne_b10_b19 nin0))
                replace F_b10_nextLink := F_b10_nextLink.keep Kq71 (ninS ne_b10_b2_20 (ninS ne_b10_b19 nin0))
                replace F_b10_pos := F_b10_pos.keep Kq71 (ninS ne_b10_b2_20 (ninS ne_b10_b19 nin0))
                replace E_b11 := E_b11.keep Kq71
                replace V_b11 := V_b11.keep Kq71 (ninS ne_b11_b2_20 (ninS ne_b11_b19 nin0))
                replace E_b9_12 := E_b9_12.keep Kq71
                replace V_b9_12 := V_b9_12.keep Kq71 (ninS ne_b9_12_b2_20 (ninS ne_b9_12_b19 nin0))
                replace E_b13 := E_b13.keep Kq71
                replace F_b13_departedAt := F_b13_departedAt.keep Kq71 (ninS ne_b13_b2_20 (ninS ne_b13_b19 nin0))
                replace F_b13_arrivedAt := F_b13_arrivedAt.keep Kq71 (ninS ne_b13_b2_20 (ninS ne_b13_b19 nin0))
                replace F_b13_trip := F_b13_trip.keep Kq71 (ninS ne_b13_b2_20 (ninS ne_b13_b19 nin0))
                replace F_b13_id := F_b13_id.keep Kq71 (ninS ne_b13_b2_20 (ninS ne_b13_b19 nin0))
                replace F_b13_maxSpeed := F_b13_maxSpeed.keep Kq71 (ninS ne_b13_b2_20 (ninS ne_b13_b19 nin0))
                replace F_b13_route := F_b13_route.keep Kq71 (ninS ne_b13_b2_20 (ninS ne_b13_b19 nin0))
                replace F_b13_link := F_b13_link.keep Kq71 (ninS ne_b13_b2_20 (ninS ne_b13_b19 nin0))
                replace F_b13_nextLink := F_b13_nextLink.keep Kq71 (ninS ne_b13_b2_20 (ninS ne_b13_b19 nin0))
                replace F_b13_pos := F_b13_pos.keep Kq71 (ninS ne_b13_b2_20 (ninS ne_b13_b19 nin0))
                replace E_b14 := E_b14.keep Kq71
                replace V_b14 := V_b14.keep Kq71 (ninS ne_b14_b2_20 (ninS ne_b14_b19 nin0))
                replace E_b9_15 := E_b9_15.keep Kq71
                replace V_b9_15 := V_b9_15.keep Kq71 (ninS ne_b9_15_b2_20 (ninS ne_b9_15_b19 nin0))
                replace E_b16 := E_b16.keep Kq71
                replace F_b16_departedAt := F_b16_departedAt.keep Kq71 (ninS ne_b16_b2_20 (ninS ne_b16_b19 nin0))
                replace F_b16_arrivedAt := F_b16_arrivedAt.keep Kq71 (ninS ne_b16_b2_20 (ninS ne_b16_b19 nin0))
                replace F_b16_trip := F_b16_trip.keep Kq71 (ninS ne_b16_b2_20 (ninS ne_b16_b19 nin0))
                replace F_b16_id := F_b16_id.keep Kq71 (ninS ne_b16_b2_20 (ninS ne_b16_b19 nin0))
                replace F_b16_maxSpeed := F_b16_maxSpeed.keep Kq71 (ninS ne_b16_b2_20 (ninS ne_b16_b19 nin0))
                replace F_b16_route := F_b16_route.keep Kq71 (ninS ne_b16_b2_20 (ninS ne_b16_b19 nin0))
                replace F_b16_link := F_b16_link.keep Kq71 (ninS ne_b16_b2_20 (ninS ne_b16_b19 nin0))
                replace F_b16_nextLink := F_b16_nextLink.keep Kq71 (ninS ne_b16_b2_20 (ninS ne_b16_b19 nin0))
                replace F_b16_pos := F_b16_pos.keep Kq71 (ninS ne_b16_b2_20 (ninS ne_b16_b19 nin0))
                replace E_b17 := E_b17.keep Kq71
                replace V_b17 := V_b17.keep Kq71 (ninS ne_b17_b2_20 (ninS ne_b17_b19 nin0))
                replace E_b9_18 := E_b9_18.keep Kq71
                replace V_b9_18 := V_b9_18.keep Kq71 (ninS ne_b9_18_b2_20 (ninS ne_b9_18_b19 nin0))
                replace E_b19 := E_b19.keep Kq71
                replace E_b2_20 := E_b2_20.keep Kq71
                replace E_x63 := E_x63.keep Kq71
                replace F_x63_pos := F_x63_pos.keep Kq71 (ninS ne_x63_b2_20 (ninS ne_x63_b19 nin0))
                replace E_x66 := E_x66.keep Kq71
                replace F_x66_pos := F_x66_pos.keep Kq71 (ninS ne_x66_b2_20 (ninS ne_x66_b19 nin0))
                replace E_x69 := E_x69.keep Kq71
                replace F_x69_pos := F_x69_pos.keep Kq71 (ninS ne_x69_b2_20 (ninS ne_x69_b19 nin0))
                have V_b2_20 := gq71_0
                have E_b19 := gq71_1
                have F_b19_vehicles := gq71_2
                have F_b19_link := gq71_3
                have F_b19_part := gq71_4
                have F_b19_size := gq71_5
                replace Z0 := Nat.le_trans Z0 Kq71.1
                replace hk := Nat.le_trans hk Kq71.1
                refine own_pop X71 hx hby rfl at_183 (pc' := 184) rfl ?_
                by_cases hq3 : n6 = 3
                · subst hq3
                  refine own_aload X71 hx hby rfl rfl at_184 (pc' := 186) rfl ?_
                  refine own_iload X71 hx hby rfl at_186 (pc' := 188) rfl ?_
                  refine own_aload X71 hx hby rfl rfl at_188 (pc' := 190) rfl ?_
                  refine own_aload X71 hx hby rfl rfl at_190 (pc' := 192) rfl ?_
                  refine own_aload X71 hx hby rfl rfl at_192 (pc' := 194) rfl ?_
                  refine own_static X71 hx hby hZ (y := (⟨"com/example/phlow/phlow/engine/LaneIndexOfPinLaw", "pick", "(ILcom/example/phlow/phlow/engine/Vehicle;Lcom/example/phlow/phlow/engine/Vehicle;Lcom/example/phlow/phlow/engine/Vehicle;)Lcom/example/phlow/phlow/engine/Vehicle;"⟩ : MethodName)) (rest := [(.ref b19)]) hown (hw _ (List.mem_of_getElem? (i := 91) rfl)) (hw _ (List.mem_of_getElem? (i := 92) rfl)) (hw _ (List.mem_of_getElem? (i := 94) rfl)) (hw _ (List.mem_of_getElem? (i := 93) rfl)) (by decide) (rm8n l Z a0 hw [] b10 b13 b16 h71 n0 Z0) eH71 (by rw [hml]; rfl) (argsL := [(.int (3 : Int32)), (.ref b10), (.ref b13), (.ref b16)]) rfl (lenOf pd_6 rfl) rfl at_194 (pc' := 197) rfl (by decide) (W := 1) (Nat.le_of_eq rfl) (by decide) (by decide) (by decide) (fun T72 h72 Lc72 v72r X72 eH72 hQ72 => ?_)
                  obtain ⟨rfl, Nq72, rfl⟩ := hQ72
                  have N72 := Fr.app N71 Nq72
                  refine own_virtual X72 hx hby hZ (y := (⟨"com/example/phlow/phlow/engine/Lane", "indexOf", "(Lcom/example/phlow/phlow/engine/Vehicle;)I"⟩ : MethodName)) (y' := (⟨"com/example/phlow/phlow/engine/Lane", "indexOf", "(Lcom/example/phlow/phlow/engine/Vehicle;)I"⟩ : MethodName)) (C := "com/example/phlow/phlow/engine/Lane") (rest := []) hown (hw _ (List.mem_of_getElem? (i := 95) rfl)) (hw _ (List.mem_of_getElem? (i := 96) rfl)) (notFace_of_selects (args := #[]) (mvT hZ (hw _ (List.mem_of_getElem? (i := 98) rfl)))) (hw _ (List.mem_of_getElem? (i := 98) rfl)) (hw _ (List.mem_of_getElem? (i := 97) rfl)) (hw _ (List.mem_of_getElem? (i := 99) rfl)) (hw _ (List.mem_of_getElem? (i := 78) rfl)) (by decide) (rm9n3 l Z a0 hw [] b19 b2_20 p5 (p5 ^^^ p0) x69 x66 x63 h71 n0 Z0 F_b19_vehicles F_b19_link F_b19_part F_b19_size V_b2_20) eH72 (by rw [hml]; rfl) (a := b19) E_b19 (argsL := [.null]) rfl (lenOf pd_7 rfl) rfl at_197 (pc' := 200) rfl (by decide) (W := 0) (Nat.le_of_eq rfl) (by decide) (by decide) (by decide) (fun T73 h73 Lc73 v73r X73 eH73 hQ73 => ?_)
                  obtain ⟨rfl, Nq73, rfl⟩ := hQ73
                  have N73 := Fr.app N72 Nq73
                  refine own_istore X73 hx hby (L' := #[.val (.int p0), .val (.int p1), .val (.int p2), .val (.int p3), .val (.int p4), .val (.int p5), .val (.int (3 : Int32)), .val (.int n3), .val (.int n4), .val (.int n5), .val (.int (3 : Int32)), .val (.ref b7), .val (.ref b10), .val (.ref b13), .val (.ref b16), .val (.ref b19), .val (.int (-1 : Int32)), .unset]) rfl at_200 (pc' := 202) rfl ?_
                  refine own_iconst X73 hx hby (v := (-1 : Int32)) (by decide) at_202 (pc' := 203) rfl ?_
                  refine own_istore X73 hx hby (L' := #[.val (.int p0), .val (.int p1), .val (.int p2), .val (.int p3), .val (.int p4), .val (.int p5), .val (.int (3 : Int32)), .val (.int n3), .val (.int n4), .val (.int n5), .val (.int (3 : Int32)), .val (.ref b7), .val (.ref b10), .val (.ref b13), .val (.ref b16), .val (.ref b19), .val (.int (-1 : Int32)), .val (.int (-1 : Int32))]) rfl at_203 (pc' := 205) rfl ?_
                  refine own_iload X73 hx hby rfl at_205 (pc' := 207) rfl ?_
                  refine own_iconst X73 hx hby (v := (1 : Int32)) (by decide) at_207 (pc' := 208) rfl ?_
                  refine own_icF X73 hx hby at_208 (by decide) (pc' := 211) rfl ?_
                  refine own_iload X73 hx hby rfl at_211 (pc' := 213) rfl ?_
                  refine own_iload X73 hx hby rfl at_213 (pc' := 215) rfl ?_
                  obtain ⟨w74, q_w74⟩ : ∃ z : Int32, (if n3 = (3 : Int32) then (2 : Int32) else (-1 : Int32)) = z := ⟨_, rfl⟩
                  refine own_join (S' := T73.setTop (mkF m 224 #[.val (.int p0), .val (.int p1), .val (.int p2), .val (.int p3), .val (.int p4), .val (.int p5), .val (.int (3 : Int32)), .val (.int n3), .val (.int n4), .val (.int n5), .val (.int (3 : Int32)), .val (.ref b7), .val (.ref b10), .val (.ref b13), .val (.ref b16), .val (.ref b19), .val (.int (-1 : Int32)), .val (.int w74)] [])) (fun F' k' => ?_) ?_
                  · rw [← q_w74] at k'
                    by_cases hc75 : n3 = (3 : Int32)
                    · simp only [if_pos hc75] at k'
                      refine own_icF X73 hx hby at_215 (own_ic_ne_p hc75) (pc' := 218) rfl ?_
                      refine own_iload X73 hx hby rfl at_218 (pc' := 220) rfl ?_
                      refine own_iconst X73 hx hby (v := (1 : Int32)) (by decide) at_220 (pc' := 221) rfl ?_
                      refine own_isub X73 hx hby (v := (2 : Int32)) (by decide) at_221 (pc' := 222) rfl ?_
                      refine own_istore X73 hx hby (L' := #[.val (.int p0), .val (.int p1), .val (.int p2), .val (.int p3), .val (.int p4), .val (.int p5), .val (.int (3 : Int32)), .val (.int n3), .val (.int n4), .val (.int n5), .val (.int (3 : Int32)), .val (.ref b7), .val (.ref b10), .val (.ref b13), .val (.ref b16), .val (.ref b19), .val (.int (-1 : Int32)), .val (.int (2 : Int32))]) rfl at_222 (pc' := 224) rfl ?_
                      exact k'
                    · simp only [if_neg hc75] at k'
                      refine own_icT X73 hx hby at_215 (own_ic_ne_n hc75) (by decide) (pc' := 224) (by decide) ?_
                      exact k'
                  as_aux_lemma =>
                    refine own_iload X73 hx hby rfl at_224 (pc' := 226) rfl ?_
                    refine own_iconst X73 hx hby (v := (2 : Int32)) (by decide) at_226 (pc' := 227) rfl ?_
                    refine own_icF X73 hx hby at_227 (by decide) (pc' := 230) rfl ?_
                    refine own_iload X73 hx hby rfl at_230 (pc' := 232) rfl ?_
                    refine own_iload X73 hx hby rfl at_232 (pc' := 234) rfl ?_
                    obtain ⟨w76, q_w76⟩ : ∃ z : Int32, (if n4 = (3 : Int32) then (1 : Int32) else w74) = z := ⟨_, rfl⟩
                    refine own_join (S' := T73.setTop (mkF m 243 #[.val (.int p0), .val (.int p1), .val (.int p2), .val (.int p3), .val (.int p4), .val (.int p5), .val (.int (3 : Int32)), .val (.int n3), .val (.int n4), .val (.int n5), .val (.int (3 : Int32)), .val (.ref b7), .val (.ref b10), .val (.ref b13), .val (.ref b16), .val (.ref b19), .val (.int (-1 : Int32)), .val (.int w76)] [])) (fun F' k' => ?_) ?_
                    · rw [← q_w76] at k'
                      by_cases hc77 : n4 = (3 : Int32)
                      · simp only [if_pos hc77] at k'
                        refine own_icF X73 hx hby at_234 (own_ic_ne_p hc77) (pc' := 237) rfl ?_
                        refine own_iload X73 hx hby rfl at_237 (pc' := 239) rfl ?_
                        refine own_iconst X73 hx hby (v := (2 : Int32)) (by decide) at_239 (pc' := 240) rfl ?_
                        refine own_isub X73 hx hby (v := (1 : Int32)) (by decide) at_240 (pc' := 241) rfl ?_
                        refine own_istore X73 hx hby (L' := #[.val (.int p0), .val (.int p1), .val (.int p2), .val (.int p3), .val (.int p4), .val (.int p5), .val (.int (3 : Int32)), .val (.int n3), .val (.int n4), .val (.int n5), .val (.int (3 : Int32)), .val (.ref b7), .val (.ref b10), .val (.ref b13), .val (.ref b16), .val (.ref b19), .val (.int (-1 : Int32)), .val (.int (1 : Int32))]) rfl at_241 (pc' := 243) rfl ?_
                        exact k'
                      · simp only [if_neg hc77] at k'
                        refine own_icT X73 hx hby at_234 (own_ic_ne_n hc77) (by decide) (pc' := 243) (by decide) ?_
                        exact k'
                    refine own_iload X73 hx hby rfl at_243 (pc' := 245) rfl ?_
                    refine own_iconst X73 hx hby (v := (3 : Int32)) (by decide) at_245 (pc' := 246) rfl ?_
                    refine own_icF X73 hx hby at_246 (by decide) (pc' := 249) rfl ?_
                    refine own_iload X73 hx hby rfl at_249 (pc' := 251) rfl ?_
                    refine own_iload X73 hx hby rfl at_251 (pc' := 253) rfl ?_
                    obtain ⟨w78, q_w78⟩ : ∃ z : Int32, (if n5 = (3 : Int32) then (0 : Int32) else w76) = z := ⟨_, rfl⟩
                    refine own_join (S' := T73.setTop (mkF m 262 #[.val (.int p0), .val (.int p1), .val (.int p2), .val (.int p3), .val (.int p4), .val (.int p5), .val (.int (3 : Int32)), .val (.int n3), .val (.int n4), .val (.int n5), .val (.int (3 : Int32)), .val (.ref b7), .val (.ref b10), .val (.ref b13), .val (.ref b16), .val (.ref b19), .val (.int (-1 : Int32)), .val (.int w78)] [])) (fun F' k' => ?_) ?_
                    · rw [← q_w78] at k'
                      by_cases hc79 : n5 = (3 : Int32)
                      · simp only [if_pos hc79] at k'
                        refine own_icF X73 hx hby at_253 (own_ic_ne_p hc79) (pc' := 256) rfl ?_
                        refine own_iload X73 hx hby rfl at_256 (pc' := 258) rfl ?_
                        refine own_iconst X73 hx hby (v := (3 : Int32)) (by decide) at_258 (pc' := 259) rfl ?_
                        refine own_isub X73 hx hby (v := (0 : Int32)) (by decide) at_259 (pc' := 260) rfl ?_
                        refine own_istore X73 hx hby (L' := #[.val (.int p0), .val (.int p1), .val (.int p2), .val (.int p3), .val (.int p4), .val (.int p5), .val (.int (3 : Int32)), .val (.int n3), .val (.int n4), .val (.int n5), .val (.int (3 : Int32)), .val (.ref b7), .val (.ref b10), .val (.ref b13), .val (.ref b16), .val (.ref b19), .val (.int (-1 : Int32)), .val (.int (0 : Int32))]) rfl at_260 (pc' := 262) rfl ?_
                        exact k'
                      · simp only [if_neg hc79] at k'
                        refine own_icT X73 hx hby at_253 (own_ic_ne_n hc79) (by decide) (pc' := 262) (by decide) ?_
                        exact k'
                    refine own_iload X73 hx hby rfl at_262 (pc' := 264) rfl ?_
                    refine own_iload X73 hx hby rfl at_264 (pc' := 266) rfl ?_
                    have hk80 : (-1 : Int32) = w78 := by rw [← q_w78, ← q_w76, ← q_w74]; exact (((if_neg (own_no3 hc_x69)).trans ((if_neg (own_no3 hc_x66)).trans ((if_neg (own_no3 hc_x63)).trans rfl)))).symm
                    refine own_icF X73 hx hby at_266 (own_ic_ne_p hk80) (pc' := 269) rfl ?_
                    refine own_iconst X73 hx hby (v := (1 : Int32)) (by decide) at_269 (pc' := 270) rfl ?_
                    refine own_goto X73 hx hby at_270 (by decide) (pc' := 274) (by decide) ?_
                    exact own_retZW X73 hx hby Bd.notSynchronized Bd.returns (Or.inr rfl) at_274 (by decide) (by decide) eH73 hS hk ⟨rfl, N73⟩
                · have hq2 := own_not3 (own_n4 q_n6) hq3
                  as_aux_lemma =>
                    refine own_aload X71 hx hby rfl rfl at_184 (pc' := 186) rfl ?_
                    refine own_iload X71 hx hby rfl at_186 (pc' := 188) rfl ?_
                    refine own_aload X71 hx hby rfl rfl at_188 (pc' := 190) rfl ?_
                    refine own_aload X71 hx hby rfl rfl at_190 (pc' := 192) rfl ?_
                    refine own_aload X71 hx hby rfl rfl at_192 (pc' := 194) rfl ?_
                    have hc_x81 := hq2
                    obtain ⟨x81, hx_x81⟩ := own_ex (a := b10) (b := b13) (d := b16) hc_x81
                    refine own_static X71 hx hby hZ (y := (⟨"com/example/phlow/phlow/engine/LaneIndexOfPinLaw", "pick", "(ILcom/example/phlow/phlow/engine/Vehicle;Lcom/example/phlow/phlow/engine/Vehicle;Lcom/example/phlow/phlow/engine/Vehicle;)Lcom/example/phlow/phlow/engine/Vehicle;"⟩ : MethodName)) (rest := [(.ref b19)]) hown (hw _ (List.mem_of_getElem? (i := 91) rfl)) (hw _ (List.mem_of_getElem? (i := 92) rfl)) (hw _ (List.mem_of_getElem? (i := 94) rfl)) (hw _ (List.mem_of_getElem? (i := 93) rfl)) (by decide) (rm8 l Z a0 hw [] n6 b10 b13 b16 x81 h71 n0 Z0 hx_x81) eH71 (by rw [hml]; rfl) (argsL := [(.int n6), (.ref b10), (.ref b13), (.ref b16)]) rfl (lenOf pd_6 rfl) rfl at_194 (pc' := 197) rfl (by decide) (W := 1) (Nat.le_of_eq rfl) (by decide) (by decide) (by decide) (fun T82 h82 Lc82 v82r X82 eH82 hQ82 => ?_)
                    obtain ⟨rfl, Nq82, rfl⟩ := hQ82
                    have N82 := Fr.app N71 Nq82
                    have E_x81 : Exa Z h71 x81 "com/example/phlow/phlow/engine/Vehicle" := own_of (P := fun r => Exa Z h71 r "com/example/phlow/phlow/engine/Vehicle") hx_x81 E_b10 E_b13 E_b16
                    have F_x81_pos : Fld Z h71 x81 "com/example/phlow/phlow/engine/Vehicle" "pos" "D" (.double (0 : UInt64)) := own_of (P := fun r => Fld Z h71 r "com/example/phlow/phlow/engine/Vehicle" "pos" "D" (.double (0 : UInt64))) hx_x81 F_b10_pos F_b13_pos F_b16_pos
                    have ne_x81_b19 : x81 ≠ b19 := own_of (P := fun r => r ≠ b19) hx_x81 ne_b10_b19 ne_b13_b19 ne_b16_b19
                    have ne_x81_b2_20 : x81 ≠ b2_20 := own_of (P := fun r => r ≠ b2_20) hx_x81 ne_b10_b2_20 ne_b13_b2_20 ne_b16_b2_20
                    refine own_virtual X82 hx hby hZ (y := (⟨"com/example/phlow/phlow/engine/Lane", "indexOf", "(Lcom/example/phlow/phlow/engine/Vehicle;)I"⟩ : MethodName)) (y' := (⟨"com/example/phlow/phlow/engine/Lane", "indexOf", "(Lcom/example/phlow/phlow/engine/Vehicle;)I"⟩ : MethodName)) (C := "com/example/phlow/phlow/engine/Lane") (rest := []) hown (hw _ (List.mem_of_getElem? (i := 95) rfl)) (hw _ (List.mem_of_getElem? (i := 96) rfl)) (notFace_of_selects (args := #[]) (mvT hZ (hw _ (List.mem_of_getElem? (i := 98) rfl)))) (hw _ (List.mem_of_getElem? (i := 98) rfl)) (hw _ (List.mem_of_getElem? (i := 97) rfl)) (hw _ (List.mem_of_getElem? (i := 99) rfl)) (hw _ (List.mem_of_getElem? (i := 78) rfl)) (by decide) (rm9s3 l Z a0 hw [] b19 x81 b2_20 p5 (p5 ^^^ p0) x69 x66 x63 h71 n0 Z0 F_b19_vehicles F_b19_link F_b19_part F_b19_size V_b2_20) eH82 (by rw [hml]; rfl) (a := b19) E_b19 (argsL := [(.ref x81)]) rfl (lenOf pd_7 rfl) rfl at_197 (pc' := 200) rfl (by decide) (W := 0) (Nat.le_of_eq rfl) (by decide) (by decide) (by decide) (fun T83 h83 Lc83 v83r X83 eH83 hQ83 => ?_)
                    obtain ⟨rfl, Nq83, rfl⟩ := hQ83
                    have N83 := Fr.app N82 Nq83
                    dsimp only [Option.toList, List.cons_append, List.nil_append]
                    generalize q_r84 : (if x69 = x81 then (0 : Int32) else (if x66 = x81 then (1 : Int32) else (if x63 = x81 then (2 : Int32) else (-1 : Int32)))) = r84
                    refine own_istore X83 hx hby (L' := #[.val (.int p0), .val (.int p1), .val (.int p2), .val (.int p3), .val (.int p4), .val (.int p5), .val (.int (3 : Int32)), .val (.int n3), .val (.int n4), .val (.int n5), .val (.int n6), .val (.ref b7), .val (.ref b10), .val (.ref b13), .val (.ref b16), .val (.ref b19), .val (.int r84), .unset]) rfl at_200 (pc' := 202) rfl ?_
                    refine own_iconst X83 hx hby (v := (-1 : Int32)) (by decide) at_202 (pc' := 203) rfl ?_
                    refine own_istore X83 hx hby (L' := #[.val (.int p0), .val (.int p1), .val (.int p2), .val (.int p3), .val (.int p4), .val (.int p5), .val (.int (3 : Int32)), .val (.int n3), .val (.int n4), .val (.int n5), .val (.int n6), .val (.ref b7), .val (.ref b10), .val (.ref b13), .val (.ref b16), .val (.ref b19), .val (.int r84), .val (.int (-1 : Int32))]) rfl at_203 (pc' := 205) rfl ?_
                    refine own_iload X83 hx hby rfl at_205 (pc' := 207) rfl ?_
                    refine own_iconst X83 hx hby (v := (1 : Int32)) (by decide) at_207 (pc' := 208) rfl ?_
                    refine own_icF X83 hx hby at_208 (by decide) (pc' := 211) rfl ?_
                    refine own_iload X83 hx hby rfl at_211 (pc' := 213) rfl ?_
                    refine own_iload X83 hx hby rfl at_213 (pc' := 215) rfl ?_
                    obtain ⟨w85, q_w85⟩ : ∃ z : Int32, (if n3 = n6 then (2 : Int32) else (-1 : Int32)) = z := ⟨_, rfl⟩
                    refine own_join (S' := T83.setTop (mkF m 224 #[.val (.int p0), .val (.int p1), .val (.int p2), .val (.int p3), .val (.int p4), .val (.int p5), .val (.int (3 : Int32)), .val (.int n3), .val (.int n4), .val (.int n5), .val (.int n6), .val (.ref b7), .val (.ref b10), .val (.ref b13), .val (.ref b16), .val (.ref b19), .val (.int r84), .val (.int w85)] [])) (fun F' k' => ?_) ?_
                    · rw [← q_w85] at k'
                      by_cases hc86 : n3 = n6
                      · simp only [if_pos hc86] at k'
                        refine own_icF X83 hx hby at_215 (own_ic_ne_p hc86) (pc' := 218) rfl ?_
                        refine own_iload X83 hx hby rfl at_218 (pc' := 220) rfl ?_
                        refine own_iconst X83 hx hby (v := (1 : Int32)) (by decide) at_220 (pc' := 221) rfl ?_
                        refine own_isub X83 hx hby (v := (2 : Int32)) (by decide) at_221 (pc' := 222) rfl ?_
                        refine own_istore X83 hx hby (L' := #[.val (.int p0), .val (.int p1), .val (.int p2), .val (.int p3), .val (.int p4), .val (.int p5), .val (.int (3 : Int32)), .val (.int n3), .val (.int n4), .val (.int n5), .val (.int n6), .val (.ref b7), .val (.ref b10), .val (.ref b13), .val (.ref b16), .val (.ref b19), .val (.int r84), .val (.int (2 : Int32))]) rfl at_222 (pc' := 224) rfl ?_
                        exact k'
                      · simp only [if_neg hc86] at k'
                        refine own_icT X83 hx hby at_215 (own_ic_ne_n hc86) (by decide) (pc' := 224) (by decide) ?_
                        exact k'
                    refine own_iload X83 hx hby rfl at_224 (pc' := 226) rfl ?_
                    refine own_iconst X83 hx hby (v := (2 : Int32)) (by decide) at_226 (pc' := 227) rfl ?_
                    refine own_icF X83 hx hby at_227 (by decide) (pc' := 230) rfl ?_
                    refine own_iload X83 hx hby rfl at_230 (pc' := 232) rfl ?_
                    refine own_iload X83 hx hby rfl at_232 (pc' := 234) rfl ?_
                    obtain ⟨w87, q_w87⟩ : ∃ z : Int32, (if n4 = n6 then (1 : Int32) else w85) = z := ⟨_, rfl⟩
                    refine own_join (S' := T83.setTop (mkF m 243 #[.val (.int p0), .val (.int p1), .val (.int p2), .val (.int p3), .val (.int p4), .val (.int p5), .val (.int (3 : Int32)), .val (.int n3), .val (.int n4), .val (.int n5), .val (.int n6), .val (.ref b7), .val (.ref b10), .val (.ref b13), .val (.ref b16), .val (.ref b19), .val (.int r84), .val (.int w87)] [])) (fun F' k' => ?_) ?_
                    · rw [← q_w87] at k'
                      by_cases hc88 : n4 = n6
                      · simp only [if_pos hc88] at k'
                        refine own_icF X83 hx hby at_234 (own_ic_ne_p hc88) (pc' := 237) rfl ?_
                        refine own_iload X83 hx hby rfl at_237 (pc' := 239) rfl ?_
                        refine own_iconst X83 hx hby (v := (2 : Int32)) (by decide) at_239 (pc' := 240) rfl ?_
                        refine own_isub X83 hx hby (v := (1 : Int32)) (by decide) at_240 (pc' := 241) rfl ?_
                        refine own_istore X83 hx hby (L' := #[.val (.int p0), .val (.int p1), .val (.int p2), .val (.int p3), .val (.int p4), .val (.int p5), .val (.int (3 : Int32)), .val (.int n3), .val (.int n4), .val (.int n5), .val (.int n6), .val (.ref b7), .val (.ref b10), .val (.ref b13), .val (.ref b16), .val (.ref b19), .val (.int r84), .val (.int (1 : Int32))]) rfl at_241 (pc' := 243) rfl ?_
                        exact k'
                      · simp only [if_neg hc88] at k'
                        refine own_icT X83 hx hby at_234 (own_ic_ne_n hc88) (by decide) (pc' := 243) (by decide) ?_
                        exact k'
                    refine own_iload X83 hx hby rfl at_243 (pc' := 245) rfl ?_
                    refine own_iconst X83 hx hby (v := (3 : Int32)) (by decide) at_245 (pc' := 246) rfl ?_
                    refine own_icF X83 hx hby at_246 (by decide) (pc' := 249) rfl ?_
                    refine own_iload X83 hx hby rfl at_249 (pc' := 251) rfl ?_
                    refine own_iload X83 hx hby rfl at_251 (pc' := 253) rfl ?_
                    obtain ⟨w89, q_w89⟩ : ∃ z : Int32, (if n5 = n6 then (0 : Int32) else w87) = z := ⟨_, rfl⟩
                    refine own_join (S' := T83.setTop (mkF m 262 #[.val (.int p0), .val (.int p1), .val (.int p2), .val (.int p3), .val (.int p4), .val (.int p5), .val (.int (3 : Int32)), .val (.int n3), .val (.int n4), .val (.int n5), .val (.int n6), .val (.ref b7), .val (.ref b10), .val (.ref b13), .val (.ref b16), .val (.ref b19), .val (.int r84), .val (.int w89)] [])) (fun F' k' => ?_) ?_
                    · rw [← q_w89] at k'
                      by_cases hc90 : n5 = n6
                      · simp only [if_pos hc90] at k'
                        refine own_icF X83 hx hby at_253 (own_ic_ne_p hc90) (pc' := 256) rfl ?_
                        refine own_iload X83 hx hby rfl at_256 (pc' := 258) rfl ?_
                        refine own_iconst X83 hx hby (v := (3 : Int32)) (by decide) at_258 (pc' := 259) rfl ?_
                        refine own_isub X83 hx hby (v := (0 : Int32)) (by decide) at_259 (pc' := 260) rfl ?_
                        refine own_istore X83 hx hby (L' := #[.val (.int p0), .val (.int p1), .val (.int p2), .val (.int p3), .val (.int p4), .val (.int p5), .val (.int (3 : Int32)), .val (.int n3), .val (.int n4), .val (.int n5), .val (.int n6), .val (.ref b7), .val (.ref b10), .val (.ref b13), .val (.ref b16), .val (.ref b19), .val (.int r84), .val (.int (0 : Int32))]) rfl at_260 (pc' := 262) rfl ?_
                        exact k'
                      · simp only [if_neg hc90] at k'
                        refine own_icT X83 hx hby at_253 (own_ic_ne_n hc90) (by decide) (pc' := 262) (by decide) ?_
                        exact k'
                    refine own_iload X83 hx hby rfl at_262 (pc' := 264) rfl ?_
                    refine own_iload X83 hx hby rfl at_264 (pc' := 266) rfl ?_
                    have hk91 : r84 = w89 := by rw [← q_r84, ← q_w89, ← q_w87, ← q_w85]; exact (own_iteq (own_iff hx_x69 hx_x81 ne_b10_b13 ne_b10_b16 ne_b13_b16) (own_iteq (own_iff hx_x66 hx_x81 ne_b10_b13 ne_b10_b16 ne_b13_b16) (own_iteq (own_iff hx_x63 hx_x81 ne_b10_b13 ne_b10_b16 ne_b13_b16) rfl)))
                    refine own_icF X83 hx hby at_266 (own_ic_ne_p hk91) (pc' := 269) rfl ?_
                    refine own_iconst X83 hx hby (v := (1 : Int32)) (by decide) at_269 (pc' := 270) rfl ?_
                    refine own_goto X83 hx hby at_270 (by decide) (pc' := 274) (by decide) ?_
                    exact own_retZW X83 hx hby Bd.notSynchronized Bd.returns (Or.inr rfl) at_274 (by decide) (by decide) eH83 hS hk ⟨rfl, N83⟩
set_option maxRecDepth 65536 in
set_option maxHeartbeats 40000000 in
theorem comes_1 {Post : Tables → Env → Array Value → State → Outcome → State → Prop} (hpost : ∀ tb e args s v u, (limb_1_1.after args s (.returned v) u = true ∧ limb_1_2.after args s (.returned v) u = true ∧ True) → ReturnedEndW s (.returned v) u (Jvm.fieldLocs frame_1_writes args s ++ Jvm.arrayLocs frame_1_arrays args s ++ Jvm.staticLocs frame_1_statics s) 40 1280 → Post tb e args s (.returned v) u) :
    ArmFor flags0 classFile x code maxLocals ret World_1 tables_1 room_1 Calls_1 rest_1 Pre_1 Post := by
  intro l hfl _ _ p e ha hc hk s m args below hf hA hF happ hP
  obtain ⟨hcalls, hrest, hpre⟩ := hP
  obtain ⟨-, -, -, hnamed, -, -, -, hat⟩ := (Spec.applies_iff hf).mp happ
  obtain ⟨hg, hn⟩ := and_e (Cond.before_iff.mp (show (Jvm.Cond.and given_1 narrow_1).before args s = true from hpre))
  obtain ⟨gg1, gg2⟩ := and_e hg
  obtain ⟨gg3, gg4⟩ := and_e gg2
  obtain ⟨gg5, gg6⟩ := and_e gg4
  obtain ⟨gg7, gg8⟩ := and_e gg6
  obtain ⟨gg9, gg10⟩ := and_e gg8
  obtain ⟨gg11, gg12⟩ := and_e gg10
  obtain ⟨w0, w1, w2, w3, w4, w5, rfl⟩ : ∃ w0 w1 w2 w3 w4 w5 : Value, args = #[w0, w1, w2, w3, w4, w5] := by
    have hs : args.size = 6 := by simpa [Cond.value, given_1] using gg1
    obtain ⟨L⟩ := args
    match L, hs with
    | [w0, w1, w2, w3, w4, w5], _ => exact ⟨w0, w1, w2, w3, w4, w5, rfl⟩
  have hw := fun d (hd : d ∈ tables_1) => atoms_spec (ws := Jvm.Cond.code x code maxLocals ret :: tables_1) hat d (List.mem_cons_of_mem _ hd)
  have hfit : Fit s := fun {y c} hc i hi => by
    obtain ⟨ha, rfl⟩ := Array.getElem?_eq_some_iff.mp hc
    have q := List.all_eq_true.mp ((Array.all_eq_true_iff_forall_mem.mp hF) _ (Array.getElem_mem ha)) i (List.mem_range.mpr hi)
    simpa [Array.getElem?_eq_getElem hi] using q
  obtain ⟨i0, ei0⟩ := is_v gg3
  obtain rfl : w0 = (.int i0) := Option.some.inj ei0
  obtain ⟨i1, ei1⟩ := is_v gg5
  obtain rfl : w1 = (.int i1) := Option.some.inj ei1
  obtain ⟨i2, ei2⟩ := is_v gg7
  obtain rfl : w2 = (.int i2) := Option.some.inj ei2
  obtain ⟨i3, ei3⟩ := is_v gg9
  obtain rfl : w3 = (.int i3) := Option.some.inj ei3
  obtain ⟨i4, ei4⟩ := is_v gg11
  obtain rfl : w4 = (.int i4) := Option.some.inj ei4
  obtain ⟨i5, ei5⟩ := is_v gg12
  obtain rfl : w5 = (.int i5) := Option.some.inj ei5
  obtain ⟨n, o, h1, h2, h3, _, L, rfl, ⟨rfl, N⟩, hq⟩ := rm0 l s _ hw tables_1 i0 i1 i2 i3 i4 i5 s.heap s.heap.size (Nat.le_refl _) p e ha hc hk s m _ below hf ((Spec.applies_iff_loose hf).mp happ).1 ⟨rfl, State.Warmed39.refl s, rfl⟩ trivial
  refine ⟨n, _, h1, h2, h3, hpost _ _ _ _ _ _ ⟨Cond.after_iff.mpr rfl, Cond.after_iff.mpr (eq_i res_at (Term.int_eval (1)) rfl), trivial⟩ ⟨hq.1, hq.2.1, hq.2.2.1, (hq.2.2.2.sift fun y hy => Or.inr (N y hy)).mono (by decide) (by decide)⟩⟩
theorem main_1_1 : Claimed_1_1 := comes_1 fun _ _ _ _ _ _ h hF => ⟨h.1, hF⟩
theorem main_1_2 : Claimed_1_2 := comes_1 fun _ _ _ _ _ _ h hF => ⟨h.2.1, hF⟩
end Jvm.Pilot.@@N@@
namespace Jvm.Pilot.@@N@@
open Jvm Jvm.ClassFile Sem Op Lib Jvm.Free Jvm.Stand Jvm.Pilot.@@N@@.Jvm.D
/-! MADE BY PROGRAM (witnessworld.py) out of the Statement's table words and the real class files: 18 classes; the members and pool entries that the words name. The judged class is class 1, her method 2. -/
namespace start1
open Jvm.ClassFile
def u (s : String) : CpInfo := .utf8 (stringToUtf16 s)
/-- a pool by its gaps: so many unusable entries, then the entry; so many at the end -/
def gap : Nat → List CpInfo → List CpInfo
  | 0, r => r
  | n + 1, r => .unusable :: gap n r
def poolList (es : List (Nat × CpInfo)) (last : Nat) : List CpInfo := es.foldr (fun e r => gap e.1 (e.2 :: r)) (gap last [])
def pool (es : List (Nat × CpInfo)) (last : Nat) : Array CpInfo := ⟨poolList es last⟩
def fileOf (pool : Array CpInfo) (this : Nat) (attrs : Array Attribute := #[]) (ms : Array MethodInfo := #[]) (fl : Nat := 33) (sup : Nat := 0) (ifs : Array Nat := #[]) (fds : Array FieldInfo := #[]) : ClassFile where
  minorVersion := 0
  majorVersion := 65
  constantPool := pool
  accessFlags := fl
  thisClass := this
  superClass := sup
  interfaces := ifs
  fields := fds
  methods := ms
  attributes := attrs
def plain (name : String) (sup : Option ClassId) : Class where
  name := name
  kind := .ordinary
  loader := none
  accessFlags := 33
  super := sup
  interfaces := #[]
  cf := none
  fields := #[]
  methods := #[]
  instanceTypes := #[]
  staticTypes := #[]
  resolved := #[]
  callSites := []
  init := .initialized
  statics := none
  mirror := none

def pool0 : Array CpInfo := pool [(5, u "<init>"), (0, u "()V"), (1, .class_ 10), (1, u "java/lang/Object"), (85, u "clone"), (0, u "()Ljava/lang/Object;")] 26

def k0c0 : Code := { maxStack := 0, maxLocals := 1, code := object_method_1_code, exceptionTable := #[], attributes := #[] }
def k0m0 : Method := { name := "<init>", desc := "()V", sig := { parameters := [], returnType := none }, accessFlags := 1, code := some k0c0 }
def k0m1 : Method := { name := "clone", desc := "()Ljava/lang/Object;", sig := { parameters := [], returnType := some (.object "java/lang/Object") }, accessFlags := 260, code := none }
/-- java/lang/Object -/
def k0 : Class := { plain "java/lang/Object" none with
  accessFlags := 33
  interfaces := #[]
  cf := some (fileOf pool0 8 #[] #[{ accessFlags := 1, nameIndex := 5, descriptorIndex := 6, attributes := #[] }, { accessFlags := 260, nameIndex := 96, descriptorIndex := 97, attributes := #[] }] 33 0 #[] #[])
  fields := #[]
  methods := #[k0m0, k0m1]
  instanceTypes := #[]
  staticTypes := #[]
  resolved := Array.replicate 124 none
  statics := none }

def pool1 : Array CpInfo := pool [(2, .class_ 4), (1, u "java/lang/Object"), (0, u "<init>"), (0, u "()V"), (0, .integer 2147483647), (0, .class_ 9), (0, u "com/example/phlow/phlow/demand/Trip"), (0, .string 11), (0, u "v"), (0, .methodref 8 13), (0, .nameAndType 5 14), (0, u "(Ljava/lang/String;JJD)V"), (0, .class_ 16), (0, u "com/example/phlow/phlow/engine/Vehicle"), (0, .methodref 15 18), (0, .nameAndType 5 19), (0, u "(Lcom/example/phlow/phlow/demand/Trip;[I)V"), (0, .class_ 21), (0, u "com/example/phlow/phlow/engine/Lane"), (0, .methodref 20 23), (0, .nameAndType 5 24), (0, u "(II)V"), (0, .methodref 26 27), (0, .class_ 28), (0, .nameAndType 29 30), (0, u "com/example/phlow/phlow/engine/LaneIndexOfPinLaw"), (0, u "pick"), (0, u "(ILcom/example/phlow/phlow/engine/Vehicle;Lcom/example/phlow/phlow/engine/Vehicle;Lcom/example/phlow/phlow/engine/Vehicle;)Lcom/example/phlow/phlow/engine/Vehicle;"), (0, .methodref 20 32), (0, .nameAndType 33 34), (0, u "insert"), (0, u "(Lcom/example/phlow/phlow/engine/Vehicle;)I"), (0, .methodref 20 36), (0, .nameAndType 37 34), (0, u "indexOf"), (3, u "law"), (0, u "(IIIIII)Z")] 2

def k1m0 : Method := { name := "<init>", desc := "()V", sig := { parameters := [], returnType := none }, accessFlags := 2, code := none }
def k1c1 : Code := { maxStack := 2, maxLocals := 4, code := method_2_code, exceptionTable := #[], attributes := #[] }
def k1m1 : Method := { name := "pick", desc := "(ILcom/example/phlow/phlow/engine/Vehicle;Lcom/example/phlow/phlow/engine/Vehicle;Lcom/example/phlow/phlow/engine/Vehicle;)Lcom/example/phlow/phlow/engine/Vehicle;", sig := { parameters := [.int, (.object "com/example/phlow/phlow/engine/Vehicle"), (.object "com/example/phlow/phlow/engine/Vehicle"), (.object "com/example/phlow/phlow/engine/Vehicle")], returnType := some (.object "com/example/phlow/phlow/engine/Vehicle") }, accessFlags := 10, code := some k1c1 }
def k1c2 : Code := { maxStack := 9, maxLocals := 18, code := code, exceptionTable := #[], attributes := #[] }
def k1m2 : Method := { name := "law", desc := "(IIIIII)Z", sig := { parameters := [.int, .int, .int, .int, .int, .int], returnType := some .boolean }, accessFlags := 9, code := some k1c2 }
/-- com/example/phlow/phlow/engine/LaneIndexOfPinLaw -/
def k1 : Class := { plain "com/example/phlow/phlow/engine/LaneIndexOfPinLaw" (some 0) with
  accessFlags := 49
  interfaces := #[]
  cf := some (fileOf pool1 26 #[] #[{ accessFlags := 2, nameIndex := 5, descriptorIndex := 6, attributes := #[] }, { accessFlags := 10, nameIndex := 29, descriptorIndex := 30, attributes := #[] }, { accessFlags := 9, nameIndex := 41, descriptorIndex := 42, attributes := #[] }] 49 2 #[] #[])
  fields := #[]
  methods := #[k1m0, k1m1, k1m2]
  instanceTypes := #[]
  staticTypes := #[]
  resolved := Array.replicate 45 none
  statics := none }

def pool2 : Array CpInfo := pool [(3, .double 9218868437227405312), (1, .methodref 6 7), (0, .class_ 8), (0, .nameAndType 9 10), (0, u "com/example/phlow/phlow/demand/Trip"), (0, u "<init>"), (0, u "(Ljava/lang/String;JJDD)V"), (0, .methodref 12 13), (0, .class_ 14), (0, .nameAndType 9 15), (0, u "java/lang/Object"), (0, u "()V"), (0, .fieldref 6 17), (0, .nameAndType 18 19), (0, u "vehicle"), (0, u "Ljava/lang/String;"), (0, .fieldref 6 21), (0, .nameAndType 22 23), (0, u "from"), (0, u "J"), (0, .fieldref 6 25), (0, .nameAndType 26 23), (0, u "to"), (0, .fieldref 6 28), (0, .nameAndType 29 30), (0, u "depart"), (0, u "D"), (0, .fieldref 6 32), (0, .nameAndType 33 30), (0, u "maxSpeed"), (0, u "(Ljava/lang/String;JJD)V"), (2, u "()Ljava/lang/String;"), (1, u "()D")] 2

def k2c0 : Code := { maxStack := 10, maxLocals := 8, code := prog_1_method_1_code, exceptionTable := #[], attributes := #[] }
def k2m0 : Method := { name := "<init>", desc := "(Ljava/lang/String;JJD)V", sig := { parameters := [(.object "java/lang/String"), .long, .long, .double], returnType := none }, accessFlags := 1, code := some k2c0 }
def k2c1 : Code := { maxStack := 3, maxLocals := 10, code := prog_1_method_2_code, exceptionTable := #[], attributes := #[] }
def k2m1 : Method := { name := "<init>", desc := "(Ljava/lang/String;JJDD)V", sig := { parameters := [(.object "java/lang/String"), .long, .long, .double, .double], returnType := none }, accessFlags := 1, code := some k2c1 }
def k2c2 : Code := { maxStack := 1, maxLocals := 1, code := prog_1_method_3_code, exceptionTable := #[], attributes := #[] }
def k2m2 : Method := { name := "vehicle", desc := "()Ljava/lang/String;", sig := { parameters := [], returnType := some (.object "java/lang/String") }, accessFlags := 1, code := some k2c2 }
def k2c3 : Code := { maxStack := 2, maxLocals := 1, code := prog_1_method_7_code, exceptionTable := #[], attributes := #[] }
def k2m3 : Method := { name := "maxSpeed", desc := "()D", sig := { parameters := [], returnType := some .double }, accessFlags := 1, code := some k2c3 }
/-- com/example/phlow/phlow/demand/Trip -/
def k2 : Class := { plain "com/example/phlow/phlow/demand/Trip" (some 0) with
  accessFlags := 33
  interfaces := #[]
  cf := some (fileOf pool2 6 #[] #[{ accessFlags := 1, nameIndex := 9, descriptorIndex := 34, attributes := #[] }, { accessFlags := 1, nameIndex := 9, descriptorIndex := 10, attributes := #[] }, { accessFlags := 1, nameIndex := 18, descriptorIndex := 37, attributes := #[] }, { accessFlags := 1, nameIndex := 33, descriptorIndex := 39, attributes := #[] }] 33 12 #[] #[{ accessFlags := 18, nameIndex := 18, descriptorIndex := 19, attributes := #[] }, { accessFlags := 18, nameIndex := 22, descriptorIndex := 23, attributes := #[] }, { accessFlags := 18, nameIndex := 26, descriptorIndex := 23, attributes := #[] }, { accessFlags := 18, nameIndex := 29, descriptorIndex := 30, attributes := #[] }, { accessFlags := 18, nameIndex := 33, descriptorIndex := 30, attributes := #[] }])
  fields := #[{ name := "vehicle", type := (.object "java/lang/String"), accessFlags := 18, slot := 0, constantValue := 0 }, { name := "from", type := .long, accessFlags := 18, slot := 1, constantValue := 0 }, { name := "to", type := .long, accessFlags := 18, slot := 2, constantValue := 0 }, { name := "depart", type := .double, accessFlags := 18, slot := 3, constantValue := 0 }, { name := "maxSpeed", type := .double, accessFlags := 18, slot := 4, constantValue := 0 }]
  methods := #[k2m0, k2m1, k2m2, k2m3]
  instanceTypes := #[(.object "java/lang/String"), .long, .long, .double, .double]
  staticTypes := #[]
  resolved := Array.replicate 42 none
  statics := none }

def pool3 : Array CpInfo := pool [(1, .class_ 2), (0, u "java/io/Serializable"), (0, .class_ 4), (0, u "java/lang/Object")] 2

/-- java/io/Serializable -/
def k3 : Class := { plain "java/io/Serializable" (some 0) with
  accessFlags := 1537
  interfaces := #[]
  cf := some (fileOf pool3 1 #[] #[] 1537 3 #[] #[])
  fields := #[]
  methods := #[]
  instanceTypes := #[]
  staticTypes := #[]
  resolved := Array.replicate 7 none
  statics := none }

def pool4 : Array CpInfo := pool [(1, .class_ 2), (0, u "java/lang/Comparable"), (0, .class_ 4), (0, u "java/lang/Object")] 7

/-- java/lang/Comparable -/
def k4 : Class := { plain "java/lang/Comparable" (some 0) with
  accessFlags := 1537
  interfaces := #[]
  cf := some (fileOf pool4 1 #[] #[] 1537 3 #[] #[])
  fields := #[]
  methods := #[]
  instanceTypes := #[]
  staticTypes := #[]
  resolved := Array.replicate 12 none
  statics := none }

def pool5 : Array CpInfo := pool [(2, .class_ 4), (1, u "java/lang/CharSequence"), (42, .class_ 48), (0, u "java/lang/CharSequence$1CodePointIterator"), (10, .class_ 60), (0, u "java/lang/CharSequence$1CharIterator"), (5, .class_ 67), (0, u "java/lang/Object")] 63

/-- java/lang/CharSequence -/
def k5 : Class := { plain "java/lang/CharSequence" (some 0) with
  accessFlags := 1537
  interfaces := #[]
  cf := some (fileOf pool5 2 #[.nestMembers #[47, 59]] #[] 1537 66 #[] #[])
  fields := #[]
  methods := #[]
  instanceTypes := #[]
  staticTypes := #[]
  resolved := Array.replicate 131 none
  statics := none }

def pool6 : Array CpInfo := pool [(1, .class_ 2), (0, u "java/lang/constant/Constable"), (0, .class_ 4), (0, u "java/lang/Object")] 6

/-- java/lang/constant/Constable -/
def k6 : Class := { plain "java/lang/constant/Constable" (some 0) with
  accessFlags := 1537
  interfaces := #[]
  cf := some (fileOf pool6 1 #[] #[] 1537 3 #[] #[])
  fields := #[]
  methods := #[]
  instanceTypes := #[]
  staticTypes := #[]
  resolved := Array.replicate 11 none
  statics := none }

def pool7 : Array CpInfo := pool [(1, .class_ 2), (0, u "java/lang/constant/ConstantDesc"), (0, .class_ 4), (0, u "java/lang/Object")] 32

/-- java/lang/constant/ConstantDesc -/
def k7 : Class := { plain "java/lang/constant/ConstantDesc" (some 0) with
  accessFlags := 1537
  interfaces := #[]
  cf := some (fileOf pool7 1 #[] #[] 1537 3 #[] #[])
  fields := #[]
  methods := #[]
  instanceTypes := #[]
  staticTypes := #[]
  resolved := Array.replicate 37 none
  statics := none }

def pool8 : Array CpInfo := pool [(2, .class_ 4), (1, u "java/lang/Object"), (0, u "<init>"), (0, u "()V"), (3, .class_ 12), (1, u "java/lang/String"), (0, u "value"), (0, u "[B"), (2, u "coder"), (0, u "B"), (2, u "hash"), (0, u "I"), (2, u "hashIsZero"), (0, u "Z"), (13, u "COMPACT_STRINGS"), (534, .class_ 576), (0, u "java/lang/CharSequence"), (22, u "CASE_INSENSITIVE_ORDER"), (0, u "Ljava/util/Comparator;"), (500, u "serialPersistentFields"), (0, u "[Ljava/io/ObjectStreamField;"), (0, .class_ 1104), (0, u "java/lang/String$CaseInsensitiveComparator"), (1, .class_ 1107), (0, u "java/io/Serializable"), (0, .class_ 1109), (0, u "java/lang/Comparable"), (0, .class_ 1111), (0, u "java/lang/constant/Constable"), (0, .class_ 1113), (0, u "java/lang/constant/ConstantDesc"), (2, u "serialVersionUID"), (0, u "J"), (3, u "REPL"), (0, u "C"), (2, u "LATIN1"), (1, u "UTF16")] 323

def k8m0 : Method := { name := "<init>", desc := "()V", sig := { parameters := [], returnType := none }, accessFlags := 1, code := none }
/-- java/lang/String -/
def k8 : Class := { plain "java/lang/String" (some 0) with
  accessFlags := 49
  interfaces := #[3, 4, 5, 6, 7]
  cf := some (fileOf pool8 10 #[.nestMembers #[1103]] #[{ accessFlags := 1, nameIndex := 5, descriptorIndex := 6, attributes := #[] }] 49 2 #[1106, 1108, 575, 1110, 1112] #[{ accessFlags := 18, nameIndex := 13, descriptorIndex := 14, attributes := #[] }, { accessFlags := 18, nameIndex := 17, descriptorIndex := 18, attributes := #[] }, { accessFlags := 2, nameIndex := 21, descriptorIndex := 22, attributes := #[] }, { accessFlags := 2, nameIndex := 25, descriptorIndex := 26, attributes := #[] }, { accessFlags := 26, nameIndex := 1116, descriptorIndex := 1117, attributes := #[] }, { accessFlags := 24, nameIndex := 40, descriptorIndex := 26, attributes := #[] }, { accessFlags := 26, nameIndex := 1101, descriptorIndex := 1102, attributes := #[] }, { accessFlags := 26, nameIndex := 1121, descriptorIndex := 1122, attributes := #[] }, { accessFlags := 25, nameIndex := 599, descriptorIndex := 600, attributes := #[] }, { accessFlags := 24, nameIndex := 1125, descriptorIndex := 18, attributes := #[] }, { accessFlags := 24, nameIndex := 1127, descriptorIndex := 18, attributes := #[] }])
  fields := #[{ name := "value", type := (.array .byte), accessFlags := 18, slot := 0, constantValue := 0 }, { name := "coder", type := .byte, accessFlags := 18, slot := 1, constantValue := 0 }, { name := "hash", type := .int, accessFlags := 2, slot := 2, constantValue := 0 }, { name := "hashIsZero", type := .boolean, accessFlags := 2, slot := 3, constantValue := 0 }, { name := "serialVersionUID", type := .long, accessFlags := 26, slot := 0, constantValue := 0 }, { name := "COMPACT_STRINGS", type := .boolean, accessFlags := 24, slot := 1, constantValue := 0 }, { name := "serialPersistentFields", type := (.array (.object "java/io/ObjectStreamField")), accessFlags := 26, slot := 2, constantValue := 0 }, { name := "REPL", type := .char, accessFlags := 26, slot := 3, constantValue := 0 }, { name := "CASE_INSENSITIVE_ORDER", type := (.object "java/util/Comparator"), accessFlags := 25, slot := 4, constantValue := 0 }, { name := "LATIN1", type := .byte, accessFlags := 24, slot := 5, constantValue := 0 }, { name := "UTF16", type := .byte, accessFlags := 24, slot := 6, constantValue := 0 }]
  methods := #[k8m0]
  instanceTypes := #[(.array .byte), .byte, .int, .boolean]
  staticTypes := #[.long, .boolean, (.array (.object "java/io/ObjectStreamField")), .char, (.object "java/util/Comparator"), .byte, .byte]
  resolved := Array.replicate 1451 none
  statics := none }

def pool9 : Array CpInfo := pool [(1, .methodref 2 3), (0, .class_ 4), (0, .nameAndType 5 6), (0, u "java/lang/Object"), (0, u "<init>"), (0, u "()V"), (2, .double 9221120237041090560), (1, .fieldref 12 13), (0, .class_ 14), (0, .nameAndType 15 16), (0, u "com/example/phlow/phlow/engine/Vehicle"), (0, u "departedAt"), (0, u "D"), (0, .fieldref 12 18), (0, .nameAndType 19 16), (0, u "arrivedAt"), (0, .fieldref 12 21), (0, .nameAndType 22 23), (0, u "trip"), (0, u "Lcom/example/phlow/phlow/demand/Trip;"), (0, .methodref 25 26), (0, .class_ 27), (0, .nameAndType 28 29), (0, u "com/example/phlow/phlow/demand/Trip"), (0, u "vehicle"), (0, u "()Ljava/lang/String;"), (0, .fieldref 12 31), (0, .nameAndType 32 33), (0, u "id"), (0, u "Ljava/lang/String;"), (0, .methodref 25 35), (0, .nameAndType 36 37), (0, u "maxSpeed"), (0, u "()D"), (0, .fieldref 12 39), (0, .nameAndType 36 16), (0, .methodref 41 42), (0, .class_ 43), (0, .nameAndType 44 45), (0, u "[I"), (0, u "clone"), (0, u "()Ljava/lang/Object;"), (0, .fieldref 12 47), (0, .nameAndType 48 43), (0, u "route"), (4, .fieldref 12 54), (0, .nameAndType 55 56), (0, u "link"), (0, u "I"), (0, .fieldref 12 58), (0, .nameAndType 59 56), (0, u "nextLink"), (2, u "onNetwork"), (0, u "Z"), (2, u "lane"), (0, .fieldref 12 68), (0, .nameAndType 69 16), (0, u "pos"), (2, u "speed"), (6, u "leg"), (17, u "travel"), (4, u "acceleration"), (2, u "endSpeed"), (0, u "LENGTH"), (1, u "(Lcom/example/phlow/phlow/demand/Trip;[I)V")] 25

def k9c0 : Code := { maxStack := 3, maxLocals := 3, code := prog_24_method_1_code, exceptionTable := #[], attributes := #[] }
def k9m0 : Method := { name := "<init>", desc := "(Lcom/example/phlow/phlow/demand/Trip;[I)V", sig := { parameters := [(.object "com/example/phlow/phlow/demand/Trip"), (.array .int)], returnType := none }, accessFlags := 1, code := some k9c0 }
def k9c1 : Code := { maxStack := 2, maxLocals := 1, code := prog_24_method_8_code, exceptionTable := #[], attributes := #[] }
def k9m1 : Method := { name := "pos", desc := "()D", sig := { parameters := [], returnType := some .double }, accessFlags := 1, code := some k9c1 }
/-- com/example/phlow/phlow/engine/Vehicle -/
def k9 : Class := { plain "com/example/phlow/phlow/engine/Vehicle" (some 0) with
  accessFlags := 33
  interfaces := #[]
  cf := some (fileOf pool9 12 #[] #[{ accessFlags := 1, nameIndex := 5, descriptorIndex := 108, attributes := #[] }, { accessFlags := 1, nameIndex := 69, descriptorIndex := 37, attributes := #[] }] 33 2 #[] #[{ accessFlags := 25, nameIndex := 106, descriptorIndex := 16, attributes := #[] }, { accessFlags := 18, nameIndex := 22, descriptorIndex := 23, attributes := #[] }, { accessFlags := 18, nameIndex := 32, descriptorIndex := 33, attributes := #[] }, { accessFlags := 18, nameIndex := 36, descriptorIndex := 16, attributes := #[] }, { accessFlags := 18, nameIndex := 48, descriptorIndex := 43, attributes := #[] }, { accessFlags := 2, nameIndex := 79, descriptorIndex := 56, attributes := #[] }, { accessFlags := 2, nameIndex := 55, descriptorIndex := 56, attributes := #[] }, { accessFlags := 2, nameIndex := 59, descriptorIndex := 56, attributes := #[] }, { accessFlags := 2, nameIndex := 66, descriptorIndex := 56, attributes := #[] }, { accessFlags := 2, nameIndex := 69, descriptorIndex := 16, attributes := #[] }, { accessFlags := 2, nameIndex := 72, descriptorIndex := 16, attributes := #[] }, { accessFlags := 2, nameIndex := 102, descriptorIndex := 16, attributes := #[] }, { accessFlags := 2, nameIndex := 97, descriptorIndex := 16, attributes := #[] }, { accessFlags := 2, nameIndex := 105, descriptorIndex := 16, attributes := #[] }, { accessFlags := 2, nameIndex := 62, descriptorIndex := 63, attributes := #[] }, { accessFlags := 2, nameIndex := 15, descriptorIndex := 16, attributes := #[] }, { accessFlags := 2, nameIndex := 19, descriptorIndex := 16, attributes := #[] }])
  fields := #[{ name := "LENGTH", type := .double, accessFlags := 25, slot := 0, constantValue := 0 }, { name := "trip", type := (.object "com/example/phlow/phlow/demand/Trip"), accessFlags := 18, slot := 0, constantValue := 0 }, { name := "id", type := (.object "java/lang/String"), accessFlags := 18, slot := 1, constantValue := 0 }, { name := "maxSpeed", type := .double, accessFlags := 18, slot := 2, constantValue := 0 }, { name := "route", type := (.array .int), accessFlags := 18, slot := 3, constantValue := 0 }, { name := "leg", type := .int, accessFlags := 2, slot := 4, constantValue := 0 }, { name := "link", type := .int, accessFlags := 2, slot := 5, constantValue := 0 }, { name := "nextLink", type := .int, accessFlags := 2, slot := 6, constantValue := 0 }, { name := "lane", type := .int, accessFlags := 2, slot := 7, constantValue := 0 }, { name := "pos", type := .double, accessFlags := 2, slot := 8, constantValue := 0 }, { name := "speed", type := .double, accessFlags := 2, slot := 9, constantValue := 0 }, { name := "acceleration", type := .double, accessFlags := 2, slot := 10, constantValue := 0 }, { name := "travel", type := .double, accessFlags := 2, slot := 11, constantValue := 0 }, { name := "endSpeed", type := .double, accessFlags := 2, slot := 12, constantValue := 0 }, { name := "onNetwork", type := .boolean, accessFlags := 2, slot := 13, constantValue := 0 }, { name := "departedAt", type := .double, accessFlags := 2, slot := 14, constantValue := 0 }, { name := "arrivedAt", type := .double, accessFlags := 2, slot := 15, constantValue := 0 }]
  methods := #[k9m0, k9m1]
  instanceTypes := #[(.object "com/example/phlow/phlow/demand/Trip"), (.object "java/lang/String"), .double, (.array .int), .int, .int, .int, .int, .double, .double, .double, .double, .double, .boolean, .double, .double]
  staticTypes := #[.double]
  resolved := Array.replicate 134 none
  statics := none }

def pool10 : Array CpInfo := pool [(1, .class_ 2), (0, u "java/lang/Cloneable"), (0, .class_ 4), (0, u "java/lang/Object")] 2

/-- java/lang/Cloneable -/
def k10 : Class := { plain "java/lang/Cloneable" (some 0) with
  accessFlags := 1537
  interfaces := #[]
  cf := some (fileOf pool10 1 #[] #[] 1537 3 #[] #[])
  fields := #[]
  methods := #[]
  instanceTypes := #[]
  staticTypes := #[]
  resolved := Array.replicate 7 none
  statics := none }

def pool11 : Array CpInfo := pool [(1, .methodref 2 3), (0, .class_ 4), (0, .nameAndType 5 6), (0, u "java/lang/Object"), (0, u "<init>"), (0, u "()V"), (0, .class_ 8), (0, u "com/example/phlow/phlow/engine/Vehicle"), (0, .fieldref 10 11), (0, .class_ 12), (0, .nameAndType 13 14), (0, u "com/example/phlow/phlow/engine/Lane"), (0, u "vehicles"), (0, u "[Lcom/example/phlow/phlow/engine/Vehicle;"), (0, .fieldref 10 16), (0, .nameAndType 17 18), (0, u "link"), (0, u "I"), (0, .fieldref 10 20), (0, .nameAndType 21 18), (0, u "part"), (0, .fieldref 10 23), (0, .nameAndType 24 18), (0, u "size"), (9, .methodref 7 35), (0, .nameAndType 36 37), (0, u "pos"), (0, u "()D"), (7, .methodref 46 47), (0, .class_ 48), (0, .nameAndType 49 50), (0, u "java/lang/System"), (0, u "arraycopy"), (0, u "(Ljava/lang/Object;ILjava/lang/Object;II)V"), (12, u "listed"), (0, u "Z"), (2, u "leaver"), (0, u "Lcom/example/phlow/phlow/engine/Vehicle;"), (6, u "leaverLeg"), (20, u "(II)V"), (5, u "insert"), (0, u "(Lcom/example/phlow/phlow/engine/Vehicle;)I"), (0, u "indexOf")] 30

def k11c0 : Code := { maxStack := 2, maxLocals := 3, code := prog_11_method_1_code, exceptionTable := #[], attributes := #[] }
def k11m0 : Method := { name := "<init>", desc := "(II)V", sig := { parameters := [.int, .int], returnType := none }, accessFlags := 0, code := some k11c0 }
def k11c1 : Code := { maxStack := 6, maxLocals := 3, code := prog_11_method_6_code, exceptionTable := #[], attributes := #[] }
def k11m1 : Method := { name := "insert", desc := "(Lcom/example/phlow/phlow/engine/Vehicle;)I", sig := { parameters := [(.object "com/example/phlow/phlow/engine/Vehicle")], returnType := some .int }, accessFlags := 0, code := some k11c1 }
def k11c2 : Code := { maxStack := 2, maxLocals := 4, code := prog_11_method_7_code, exceptionTable := #[], attributes := #[] }
def k11m2 : Method := { name := "indexOf", desc := "(Lcom/example/phlow/phlow/engine/Vehicle;)I", sig := { parameters := [(.object "com/example/phlow/phlow/engine/Vehicle")], returnType := some .int }, accessFlags := 0, code := some k11c2 }
/-- com/example/phlow/phlow/engine/Lane -/
def k11 : Class := { plain "com/example/phlow/phlow/engine/Lane" (some 0) with
  accessFlags := 32
  interfaces := #[]
  cf := some (fileOf pool11 10 #[] #[{ accessFlags := 0, nameIndex := 5, descriptorIndex := 96, attributes := #[] }, { accessFlags := 0, nameIndex := 102, descriptorIndex := 103, attributes := #[] }, { accessFlags := 0, nameIndex := 104, descriptorIndex := 103, attributes := #[] }] 32 2 #[] #[{ accessFlags := 18, nameIndex := 17, descriptorIndex := 18, attributes := #[] }, { accessFlags := 18, nameIndex := 21, descriptorIndex := 18, attributes := #[] }, { accessFlags := 2, nameIndex := 13, descriptorIndex := 14, attributes := #[] }, { accessFlags := 2, nameIndex := 24, descriptorIndex := 18, attributes := #[] }, { accessFlags := 2, nameIndex := 63, descriptorIndex := 64, attributes := #[] }, { accessFlags := 2, nameIndex := 67, descriptorIndex := 68, attributes := #[] }, { accessFlags := 2, nameIndex := 75, descriptorIndex := 18, attributes := #[] }])
  fields := #[{ name := "link", type := .int, accessFlags := 18, slot := 0, constantValue := 0 }, { name := "part", type := .int, accessFlags := 18, slot := 1, constantValue := 0 }, { name := "vehicles", type := (.array (.object "com/example/phlow/phlow/engine/Vehicle")), accessFlags := 2, slot := 2, constantValue := 0 }, { name := "size", type := .int, accessFlags := 2, slot := 3, constantValue := 0 }, { name := "listed", type := .boolean, accessFlags := 2, slot := 4, constantValue := 0 }, { name := "leaver", type := (.object "com/example/phlow/phlow/engine/Vehicle"), accessFlags := 2, slot := 5, constantValue := 0 }, { name := "leaverLeg", type := .int, accessFlags := 2, slot := 6, constantValue := 0 }]
  methods := #[k11m0, k11m1, k11m2]
  instanceTypes := #[.int, .int, (.array (.object "com/example/phlow/phlow/engine/Vehicle")), .int, .boolean, (.object "com/example/phlow/phlow/engine/Vehicle"), .int]
  staticTypes := #[]
  resolved := Array.replicate 135 none
  statics := none }

def pool12 : Array CpInfo := pool [(2, .class_ 4), (1, u "java/lang/Object"), (0, u "<init>"), (0, u "()V"), (1, .class_ 10), (1, u "java/lang/System"), (0, u "allowSecurityManager"), (0, u "I"), (16, u "cons"), (0, u "Ljava/io/Console;"), (77, .class_ 110), (1, u "java/lang/System$CallersHolder"), (43, u "initialErrStream"), (0, u "Ljava/io/PrintStream;"), (19, u "security"), (0, u "Ljava/lang/SecurityManager;"), (31, .class_ 209), (0, u "java/lang/System$1"), (7, u "props"), (0, u "Ljava/util/Properties;"), (2, u "lineSeparator"), (0, u "Ljava/lang/String;"), (96, .class_ 321), (1, u "java/lang/System$LoggerFinder"), (5, .class_ 328), (0, u "java/lang/System$Logger"), (67, u "err"), (2, u "out"), (91, u "notSupportedJnuEncoding"), (15, u "in"), (17, u "initialIn"), (0, u "Ljava/io/InputStream;"), (35, u "bootLayer"), (0, u "Ljava/lang/ModuleLayer;"), (99, .class_ 664), (0, u "java/lang/System$2"), (9, u "NEVER"), (2, u "MAYBE"), (49, u "arraycopy"), (0, u "(Ljava/lang/Object;ILjava/lang/Object;II)V"), (72, .class_ 802), (0, u "java/lang/System$Logger$Level")] 31

def k12m0 : Method := { name := "<init>", desc := "()V", sig := { parameters := [], returnType := none }, accessFlags := 2, code := none }
def k12m1 : Method := { name := "arraycopy", desc := "(Ljava/lang/Object;ILjava/lang/Object;II)V", sig := { parameters := [(.object "java/lang/Object"), .int, (.object "java/lang/Object"), .int, .int], returnType := none }, accessFlags := 265, code := none }
/-- java/lang/System -/
def k12 : Class := { plain "java/lang/System" (some 0) with
  accessFlags := 49
  interfaces := #[]
  cf := some (fileOf pool12 8 #[.nestMembers #[319, 327, 801, 108, 663, 208]] #[{ accessFlags := 2, nameIndex := 5, descriptorIndex := 6, attributes := #[] }, { accessFlags := 265, nameIndex := 727, descriptorIndex := 728, attributes := #[] }] 49 2 #[] #[{ accessFlags := 25, nameIndex := 507, descriptorIndex := 526, attributes := #[] }, { accessFlags := 25, nameIndex := 399, descriptorIndex := 155, attributes := #[] }, { accessFlags := 25, nameIndex := 396, descriptorIndex := 155, attributes := #[] }, { accessFlags := 10, nameIndex := 525, descriptorIndex := 526, attributes := #[] }, { accessFlags := 26, nameIndex := 674, descriptorIndex := 12, attributes := #[] }, { accessFlags := 26, nameIndex := 677, descriptorIndex := 12, attributes := #[] }, { accessFlags := 10, nameIndex := 11, descriptorIndex := 12, attributes := #[] }, { accessFlags := 74, nameIndex := 175, descriptorIndex := 176, attributes := #[] }, { accessFlags := 10, nameIndex := 491, descriptorIndex := 222, attributes := #[] }, { accessFlags := 74, nameIndex := 29, descriptorIndex := 30, attributes := #[] }, { accessFlags := 74, nameIndex := 154, descriptorIndex := 155, attributes := #[] }, { accessFlags := 10, nameIndex := 217, descriptorIndex := 218, attributes := #[] }, { accessFlags := 10, nameIndex := 221, descriptorIndex := 222, attributes := #[] }, { accessFlags := 8, nameIndex := 562, descriptorIndex := 563, attributes := #[] }])
  fields := #[{ name := "in", type := (.object "java/io/InputStream"), accessFlags := 25, slot := 0, constantValue := 0 }, { name := "out", type := (.object "java/io/PrintStream"), accessFlags := 25, slot := 1, constantValue := 0 }, { name := "err", type := (.object "java/io/PrintStream"), accessFlags := 25, slot := 2, constantValue := 0 }, { name := "initialIn", type := (.object "java/io/InputStream"), accessFlags := 10, slot := 3, constantValue := 0 }, { name := "NEVER", type := .int, accessFlags := 26, slot := 4, constantValue := 0 }, { name := "MAYBE", type := .int, accessFlags := 26, slot := 5, constantValue := 0 }, { name := "allowSecurityManager", type := .int, accessFlags := 10, slot := 6, constantValue := 0 }, { name := "security", type := (.object "java/lang/SecurityManager"), accessFlags := 74, slot := 7, constantValue := 0 }, { name := "notSupportedJnuEncoding", type := (.object "java/lang/String"), accessFlags := 10, slot := 8, constantValue := 0 }, { name := "cons", type := (.object "java/io/Console"), accessFlags := 74, slot := 9, constantValue := 0 }, { name := "initialErrStream", type := (.object "java/io/PrintStream"), accessFlags := 74, slot := 10, constantValue := 0 }, { name := "props", type := (.object "java/util/Properties"), accessFlags := 10, slot := 11, constantValue := 0 }, { name := "lineSeparator", type := (.object "java/lang/String"), accessFlags := 10, slot := 12, constantValue := 0 }, { name := "bootLayer", type := (.object "java/lang/ModuleLayer"), accessFlags := 8, slot := 13, constantValue := 0 }]
  methods := #[k12m0, k12m1]
  instanceTypes := #[]
  staticTypes := #[(.object "java/io/InputStream"), (.object "java/io/PrintStream"), (.object "java/io/PrintStream"), (.object "java/io/InputStream"), .int, .int, .int, (.object "java/lang/SecurityManager"), (.object "java/lang/String"), (.object "java/io/Console"), (.object "java/io/PrintStream"), (.object "java/util/Properties"), (.object "java/lang/String"), (.object "java/lang/ModuleLayer")]
  resolved := Array.replicate 834 none
  statics := none }

/-- the primitive byte -/
def k13 : Class := { plain "byte" none with kind := .primitive 'B', accessFlags := 0x411 }
/-- [B -/
def k14 : Class := { plain "[B" (some 0) with kind := .array 13 .byte, interfaces := #[10, 3], accessFlags := 1041 }

/-- the primitive int -/
def k15 : Class := { plain "int" none with kind := .primitive 'I', accessFlags := 0x411 }
/-- [I -/
def k16 : Class := { plain "[I" (some 0) with kind := .array 15 .int, interfaces := #[10, 3], accessFlags := 1041 }

/-- [Lcom/example/phlow/phlow/engine/Vehicle; -/
def k17 : Class := { plain "[Lcom/example/phlow/phlow/engine/Vehicle;" (some 0) with kind := .array 9 (.object "com/example/phlow/phlow/engine/Vehicle"), interfaces := #[10, 3], accessFlags := 1041 }

def heap : Heap := #[]
def classes : Array Class := #[k0, k1, k2, k3, k4, k5, k6, k7, k8, k9, k10, k11, k12, k13, k14, k15, k16, k17]
def interned : List (Array UInt16 × Addr) := []
def slotsUsed : Nat := 0
def theMethod : MethodId := ⟨1, 2⟩
def args0 : Array Value := #[.int 5, .int 7, .int 9, .int 2, .int 3, .int 4]
def aboutOver (below : List Frame) : State where
  vm := { classes := classes, interned := interned.toArray }
  heap := heap
  slotsUsed := slotsUsed
  threads := #[{ frames := .invoking theMethod args0 :: below }]
def below0 : List Frame := [.native { method := ⟨0, 0⟩, args := #[] }]
def about1 : State := aboutOver below0
def p0 : Program := .bare "" "" ""
def e0 : Env := launch0.env 0 0 0
theorem w_frames : about1.frames = Frame.invoking theMethod args0 :: below0 := rfl
set_option maxRecDepth 65536 in
theorem w_args : argsFit about1.vm theMethod args0 = true := by decide +kernel
set_option maxRecDepth 65536 in
theorem w_heap : heapFits about1 = true := by decide +kernel
set_option maxRecDepth 65536 in
theorem w_runnable : about1.curStatus? = some .runnable := by decide +kernel
set_option maxRecDepth 65536 in
theorem w_alone : about1.alone = true := by decide +kernel
set_option maxRecDepth 65536 in
theorem w_named : about1.methodNamed? x = some theMethod := by decide +kernel
set_option maxRecDepth 65536 in
theorem w_hears : about1.hears theMethod below0 = true := by decide +kernel
set_option maxRecDepth 65536 in
theorem w_ripe : about1.ripe theMethod args0 below0 = true := by decide +kernel
theorem w_running : about1.status = .running := rfl
set_option maxRecDepth 65536 in
theorem w_room : about1.hasRoom e0.platform room_1 = true :=
  launch0.hasRoom_least _ room_1 (by decide +kernel) (by decide +kernel) (by decide +kernel) (by decide +kernel) (by decide +kernel) (by decide +kernel)
theorem allAtoms_all (ts : List Jvm.Cond) (a : Array Jvm.Value) (st : Jvm.State) : (allAtoms ts).before a st = ts.all (fun c => c.before a st) := by
  induction ts with
  | nil => rfl
  | cons c t ih =>
    show (Jvm.Cond.and c (allAtoms t)).before a st = _
    rw [Jvm.Cond.before_and, ih, List.all_cons]
def words1 : List Jvm.Cond := Jvm.Cond.code x code maxLocals ret :: tables_1
/-- a 'code' word, met by the world's own term for the bytes: nothing is compared byte by byte -/
theorem code_word {y : MethodName} {bytes : ByteArray} {mx : Nat} {rt : Option FieldType} {a : Array Value} {s : State} {m : MethodId} {meth : Method} {c : Code} (h1 : s.methodNamed? y = some m) (h2 : s.vm.method? m = some meth) (h3 : meth.code = some c) (h4 : c.code = bytes)
    (h5 : (c.maxLocals == mx && c.exceptionTable.isEmpty && decide (c.maxStack ≤ mostOperands) && decide (meth.sig.returnType = rt) && !meth.locks && decide (parseMethodDescriptor y.desc = some meth.sig)) = true) : (Jvm.Cond.code y bytes mx rt).before a s = true := by
  simp only [Bool.and_eq_true, beq_iff_eq, Bool.not_eq_true', decide_eq_true_eq] at h5
  obtain ⟨⟨⟨⟨⟨g1, g2⟩, g3⟩, g4⟩, g5⟩, g6⟩ := h5
  simp [Cond.before, Cond.holds, Cond.value, h1, h2, h3, h4, g1, g2, g3, g4, g5, g6]
def isCode : Jvm.Cond → Bool
  | .code _ _ _ _ => true
  | _ => false
theorem all_split {L : List Jvm.Cond} {P : Jvm.Cond → Bool} (h1 : L.all (fun c => isCode c || P c) = true) (h2 : ∀ c ∈ L.filter isCode, P c = true) : L.all P = true := by
  refine List.all_eq_true.mpr fun c hc => ?_
  have h := List.all_eq_true.mp h1 c hc
  rcases Bool.eq_false_or_eq_true (isCode c) with hi | hi
  · exact h2 c (List.mem_filter.mpr ⟨hc, hi⟩)
  · simpa [hi] using h
set_option maxRecDepth 65536 in
theorem w_c0 : (Jvm.Cond.code x code maxLocals ret).before args0 about1 = true := code_word (m := ⟨1, 2⟩) (meth := k1m2) (c := k1c2) (by decide +kernel) rfl rfl rfl (by decide +kernel)
set_option maxRecDepth 65536 in
theorem w_c1 : (Jvm.Cond.code ({ cls := "com/example/phlow/phlow/demand/Trip", name := "<init>", desc := "(Ljava/lang/String;JJD)V" } : Jvm.MethodName) prog_1_method_1_code (8 : Nat) (Option.none : Option Jvm.ClassFile.FieldType)).before args0 about1 = true := code_word (m := ⟨2, 0⟩) (meth := k2m0) (c := k2c0) (by decide +kernel) rfl rfl rfl (by decide +kernel)
set_option maxRecDepth 65536 in
theorem w_c2 : (Jvm.Cond.code ({ cls := "com/example/phlow/phlow/demand/Trip", name := "<init>", desc := "(Ljava/lang/String;JJDD)V" } : Jvm.MethodName) prog_1_method_2_code (10 : Nat) (Option.none : Option Jvm.ClassFile.FieldType)).before args0 about1 = true := code_word (m := ⟨2, 1⟩) (meth := k2m1) (c := k2c1) (by decide +kernel) rfl rfl rfl (by decide +kernel)
set_option maxRecDepth 65536 in
theorem w_c3 : (Jvm.Cond.code ({ cls := "java/lang/Object", name := "<init>", desc := "()V" } : Jvm.MethodName) object_method_1_code (1 : Nat) (Option.none : Option Jvm.ClassFile.FieldType)).before args0 about1 = true := code_word (m := ⟨0, 0⟩) (meth := k0m0) (c := k0c0) (by decide +kernel) rfl rfl rfl (by decide +kernel)
set_option maxRecDepth 65536 in
theorem w_c4 : (Jvm.Cond.code ({ cls := "com/example/phlow/phlow/engine/Vehicle", name := "<init>", desc := "(Lcom/example/phlow/phlow/demand/Trip;[I)V" } : Jvm.MethodName) prog_24_method_1_code (3 : Nat) (Option.none : Option Jvm.ClassFile.FieldType)).before args0 about1 = true := code_word (m := ⟨9, 0⟩) (meth := k9m0) (c := k9c0) (by decide +kernel) rfl rfl rfl (by decide +kernel)
set_option maxRecDepth 65536 in
theorem w_c5 : (Jvm.Cond.code ({ cls := "com/example/phlow/phlow/demand/Trip", name := "vehicle", desc := "()Ljava/lang/String;" } : Jvm.MethodName) prog_1_method_3_code (1 : Nat) (Option.some (Jvm.ClassFile.FieldType.object "java/lang/String"))).before args0 about1 = true := code_word (m := ⟨2, 2⟩) (meth := k2m2) (c := k2c2) (by decide +kernel) rfl rfl rfl (by decide +kernel)
set_option maxRecDepth 65536 in
theorem w_c6 : (Jvm.Cond.code ({ cls := "com/example/phlow/phlow/demand/Trip", name := "maxSpeed", desc := "()D" } : Jvm.MethodName) prog_1_method_7_code (1 : Nat) (Option.some Jvm.ClassFile.FieldType.double)).before args0 about1 = true := code_word (m := ⟨2, 3⟩) (meth := k2m3) (c := k2c3) (by decide +kernel) rfl rfl rfl (by decide +kernel)
set_option maxRecDepth 65536 in
theorem w_c7 : (Jvm.Cond.code ({ cls := "com/example/phlow/phlow/engine/Lane", name := "<init>", desc := "(II)V" } : Jvm.MethodName) prog_11_method_1_code (3 : Nat) (Option.none : Option Jvm.ClassFile.FieldType)).before args0 about1 = true := code_word (m := ⟨11, 0⟩) (meth := k11m0) (c := k11c0) (by decide +kernel) rfl rfl rfl (by decide +kernel)
set_option maxRecDepth 65536 in
theorem w_c8 : (Jvm.Cond.code ({ cls := "com/example/phlow/phlow/engine/LaneIndexOfPinLaw", name := "pick", desc := "(ILcom/example/phlow/phlow/engine/Vehicle;Lcom/example/phlow/phlow/engine/Vehicle;Lcom/example/phlow/phlow/engine/Vehicle;)Lcom/example/phlow/phlow/engine/Vehicle;" } : Jvm.MethodName) method_2_code (4 : Nat) (Option.some (Jvm.ClassFile.FieldType.object "com/example/phlow/phlow/engine/Vehicle"))).before args0 about1 = true := code_word (m := ⟨1, 1⟩) (meth := k1m1) (c := k1c1) (by decide +kernel) rfl rfl rfl (by decide +kernel)
set_option maxRecDepth 65536 in
theorem w_c9 : (Jvm.Cond.code ({ cls := "com/example/phlow/phlow/engine/Lane", name := "indexOf", desc := "(Lcom/example/phlow/phlow/engine/Vehicle;)I" } : Jvm.MethodName) prog_11_method_7_code (4 : Nat) (Option.some Jvm.ClassFile.FieldType.int)).before args0 about1 = true := code_word (m := ⟨11, 2⟩) (meth := k11m2) (c := k11c2) (by decide +kernel) rfl rfl rfl (by decide +kernel)
set_option maxRecDepth 65536 in
theorem w_c10 : (Jvm.Cond.code ({ cls := "com/example/phlow/phlow/engine/Lane", name := "insert", desc := "(Lcom/example/phlow/phlow/engine/Vehicle;)I" } : Jvm.MethodName) prog_11_method_6_code (3 : Nat) (Option.some Jvm.ClassFile.FieldType.int)).before args0 about1 = true := code_word (m := ⟨11, 1⟩) (meth := k11m1) (c := k11c1) (by decide +kernel) rfl rfl rfl (by decide +kernel)
set_option maxRecDepth 65536 in
theorem w_c11 : (Jvm.Cond.code ({ cls := "com/example/phlow/phlow/engine/Vehicle", name := "pos", desc := "()D" } : Jvm.MethodName) prog_24_method_8_code (1 : Nat) (Option.some Jvm.ClassFile.FieldType.double)).before args0 about1 = true := code_word (m := ⟨9, 1⟩) (meth := k9m1) (c := k9c1) (by decide +kernel) rfl rfl rfl (by decide +kernel)
def codes1 : List Jvm.Cond := [Jvm.Cond.code x code maxLocals ret, Jvm.Cond.code ({ cls := "com/example/phlow/phlow/demand/Trip", name := "<init>", desc := "(Ljava/lang/String;JJD)V" } : Jvm.MethodName) prog_1_method_1_code (8 : Nat) (Option.none : Option Jvm.ClassFile.FieldType), Jvm.Cond.code ({ cls := "com/example/phlow/phlow/demand/Trip", name := "<init>", desc := "(Ljava/lang/String;JJDD)V" } : Jvm.MethodName) prog_1_method_2_code (10 : Nat) (Option.none : Option Jvm.ClassFile.FieldType), Jvm.Cond.code ({ cls := "java/lang/Object", name := "<init>", desc := "()V" } : Jvm.MethodName) object_method_1_code (1 : Nat) (Option.none : Option Jvm.ClassFile.FieldType), Jvm.Cond.code ({ cls := "com/example/phlow/phlow/engine/Vehicle", name := "<init>", desc := "(Lcom/example/phlow/phlow/demand/Trip;[I)V" } : Jvm.MethodName) prog_24_method_1_code (3 : Nat) (Option.none : Option Jvm.ClassFile.FieldType), Jvm.Cond.code ({ cls := "com/example/phlow/phlow/demand/Trip", name := "vehicle", desc := "()Ljava/lang/String;" } : Jvm.MethodName) prog_1_method_3_code (1 : Nat) (Option.some (Jvm.ClassFile.FieldType.object "java/lang/String")), Jvm.Cond.code ({ cls := "com/example/phlow/phlow/demand/Trip", name := "maxSpeed", desc := "()D" } : Jvm.MethodName) prog_1_method_7_code (1 : Nat) (Option.some Jvm.ClassFile.FieldType.double), Jvm.Cond.code ({ cls := "com/example/phlow/phlow/engine/Lane", name := "<init>", desc := "(II)V" } : Jvm.MethodName) prog_11_method_1_code (3 : Nat) (Option.none : Option Jvm.ClassFile.FieldType), Jvm.Cond.code ({ cls := "com/example/phlow/phlow/engine/LaneIndexOfPinLaw", name := "pick", desc := "(ILcom/example/phlow/phlow/engine/Vehicle;Lcom/example/phlow/phlow/engine/Vehicle;Lcom/example/phlow/phlow/engine/Vehicle;)Lcom/example/phlow/phlow/engine/Vehicle;" } : Jvm.MethodName) method_2_code (4 : Nat) (Option.some (Jvm.ClassFile.FieldType.object "com/example/phlow/phlow/engine/Vehicle")), Jvm.Cond.code ({ cls := "com/example/phlow/phlow/engine/Lane", name := "indexOf", desc := "(Lcom/example/phlow/phlow/engine/Vehicle;)I" } : Jvm.MethodName) prog_11_method_7_code (4 : Nat) (Option.some Jvm.ClassFile.FieldType.int), Jvm.Cond.code ({ cls := "com/example/phlow/phlow/engine/Lane", name := "insert", desc := "(Lcom/example/phlow/phlow/engine/Vehicle;)I" } : Jvm.MethodName) prog_11_method_6_code (3 : Nat) (Option.some Jvm.ClassFile.FieldType.int), Jvm.Cond.code ({ cls := "com/example/phlow/phlow/engine/Vehicle", name := "pos", desc := "()D" } : Jvm.MethodName) prog_24_method_8_code (1 : Nat) (Option.some Jvm.ClassFile.FieldType.double)]
set_option maxRecDepth 65536 in
theorem codes_eq : words1.filter isCode = codes1 := rfl
theorem w_codes : ∀ c ∈ words1.filter isCode, c.before args0 about1 = true := by
  rw [codes_eq]
  intro c hc
  simp only [codes1, List.mem_cons, List.not_mem_nil, or_false] at hc
  rcases hc with rfl | rfl | rfl | rfl | rfl | rfl | rfl | rfl | rfl | rfl | rfl | rfl
  · exact w_c0
  · exact w_c1
  · exact w_c2
  · exact w_c3
  · exact w_c4
  · exact w_c5
  · exact w_c6
  · exact w_c7
  · exact w_c8
  · exact w_c9
  · exact w_c10
  · exact w_c11
set_option maxRecDepth 65536 in
theorem w_t1 : (words1.take 24).all (fun c => isCode c || c.before args0 about1) = true := by decide +kernel
set_option maxRecDepth 65536 in
theorem w_t2 : ((words1.drop 24).take 24).all (fun c => isCode c || c.before args0 about1) = true := by decide +kernel
set_option maxRecDepth 65536 in
theorem w_t3 : (((words1.drop 24).drop 24).take 24).all (fun c => isCode c || c.before args0 about1) = true := by decide +kernel
set_option maxRecDepth 65536 in
theorem w_t4 : ((((words1.drop 24).drop 24).drop 24).take 24).all (fun c => isCode c || c.before args0 about1) = true := by decide +kernel
set_option maxRecDepth 65536 in
theorem w_t5 : ((((words1.drop 24).drop 24).drop 24).drop 24).all (fun c => isCode c || c.before args0 about1) = true := by decide +kernel
theorem w_tables : (allAtoms (Jvm.Cond.code x code maxLocals ret :: tables_1)).before args0 about1 = true := by
  rw [allAtoms_all]
  show words1.all (fun c => c.before args0 about1) = true
  refine all_split ?_ w_codes
  rw [← List.take_append_drop 24 words1, List.all_append, w_t1, ← List.take_append_drop 24 (words1.drop 24), List.all_append, w_t2, ← List.take_append_drop 24 ((words1.drop 24).drop 24), List.all_append, w_t3, ← List.take_append_drop 24 (((words1.drop 24).drop 24).drop 24), List.all_append, w_t4, w_t5]
  rfl
set_option maxRecDepth 65536 in
theorem w_case : (Jvm.Cond.and given_1 narrow_1).before args0 about1 = true := by decide +kernel
theorem w_applies : (headSpec (Jvm.Cond.code x code maxLocals ret :: tables_1) room_1).applies x e0.platform about1 = true :=
  (Spec.applies_iff w_frames).mpr ⟨w_running, w_runnable, w_alone, w_named, w_hears, w_ripe, w_room, w_tables⟩
theorem atStart : AtStart classFile x code maxLocals ret World_1 tables_1 room_1 Calls_1 rest_1 Pre_1 launch0 p0 e0 about1 theMethod args0 below0 :=
  ⟨lists_1, trivial, launch0.admits_env _ _ _, launch0.least_env, fairChoices_fair.cas, fairChoices_fair.clock, w_frames, w_args, w_heap, w_applies, trivial, trivial, w_case⟩
end start1
theorem witness_1 : WitnessClaimed_1 := ⟨start1.p0, start1.e0, start1.about1, start1.theMethod, start1.args0, start1.below0, start1.atStart⟩
end Jvm.Pilot.@@N@@
