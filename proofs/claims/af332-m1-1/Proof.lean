import JvmDerived
import JvmDerived.Pilot.@@N@@Statement
import JvmDerived.Pilot.@@N@@Code
set_option linter.unusedVariables false
set_option linter.unusedSimpArgs false
namespace Jvm.Pilot.@@N@@
open Jvm Jvm.ClassFile Sem Op Lib Jvm.Free Jvm.Stand Jvm.LawKit Jvm.RoadKit Jvm.Free.Fl Bundle Jvm.Pilot.@@N@@.Jvm.D
section OwnG
variable {p : Program} {l : Launch} {e : Env} {R : Room} {s : State} {m : MethodId} {args : Array Value} {below : List Frame} {meth : Method} {c : Code} {T : State} {locs : List Loc} {cells slots : Nat} {Z : State} {a0 : Array Value} {h : Heap} {B : ByteArray} {pc pc' : Nat} {L L' : Array Slot} {rest : List Value} {F : Outcome → State → Prop}
def Gt (tb : Tables) (e : Env) (below : List Frame) (F : Outcome → State → Prop) (S : State) : Prop := ∃ s₂ o, Steps tb e below S s₂ ∧ s₂.status = .running ∧ Ended s₂ below o ∧ F o s₂
theorem Gt.go {tb : Tables} {S S' : State} (k : Gt tb e below F S') (q : ∀ t, Steps tb e below S' t → Steps tb e below S t) : Gt tb e below F S := by
  obtain ⟨a, o, h1, h2⟩ := k; exact ⟨a, o, q _ h1, h2⟩
theorem own_join {tb : Tables} {S S' : State} (q : ∀ F', Gt tb e below F' S' → Gt tb e below F' S) (k : Gt tb e below F S') : Gt tb e below F S := q F k
theorem own_cast {tb : Tables} {g g' : JFrame} (q : g = g') (k : Gt tb e below F (T.setTop g')) : Gt tb e below F (T.setTop g) := q ▸ k
theorem own_iadd (X : Stand p l e R s m args below meth c T locs cells slots) (hx : p.tables.exec = Jvm.exec) (hby : c.code = B) {x y v : Int32} (hv : x + y = v) (hd : decode B pc = .ok (.iadd, 1)) (hp : pc + 1 = pc') (k : Gt p.tables e below F (T.setTop (mkF m pc' L (.int v :: rest)))) : Gt p.tables e below F (T.setTop (mkF m pc L (.int y :: .int x :: rest))) := by
  subst hp; exact (by subst hv; exact k.go fun t q => XS.iadd X.here hx rfl (hb hby hd) rfl q)
theorem own_isub (X : Stand p l e R s m args below meth c T locs cells slots) (hx : p.tables.exec = Jvm.exec) (hby : c.code = B) {x y v : Int32} (hv : x - y = v) (hd : decode B pc = .ok (.isub, 1)) (hp : pc + 1 = pc') (k : Gt p.tables e below F (T.setTop (mkF m pc' L (.int v :: rest)))) : Gt p.tables e below F (T.setTop (mkF m pc L (.int y :: .int x :: rest))) := by
  subst hp; exact (by subst hv; exact k.go fun t q => XS.isub X.here hx rfl (hb hby hd) rfl q)
theorem own_imul (X : Stand p l e R s m args below meth c T locs cells slots) (hx : p.tables.exec = Jvm.exec) (hby : c.code = B) {x y v : Int32} (hv : x * y = v) (hd : decode B pc = .ok (.imul, 1)) (hp : pc + 1 = pc') (k : Gt p.tables e below F (T.setTop (mkF m pc' L (.int v :: rest)))) : Gt p.tables e below F (T.setTop (mkF m pc L (.int y :: .int x :: rest))) := by
  subst hp; exact (by subst hv; exact k.go fun t q => XS.imul X.here hx rfl (hb hby hd) rfl q)
theorem own_iand (X : Stand p l e R s m args below meth c T locs cells slots) (hx : p.tables.exec = Jvm.exec) (hby : c.code = B) {x y v : Int32} (hv : x &&& y = v) (hd : decode B pc = .ok (.iand, 1)) (hp : pc + 1 = pc') (k : Gt p.tables e below F (T.setTop (mkF m pc' L (.int v :: rest)))) : Gt p.tables e below F (T.setTop (mkF m pc L (.int y :: .int x :: rest))) := by
  subst hp; exact (by subst hv; exact k.go fun t q => XS.iand X.here hx rfl (hb hby hd) rfl q)
theorem own_ior (X : Stand p l e R s m args below meth c T locs cells slots) (hx : p.tables.exec = Jvm.exec) (hby : c.code = B) {x y v : Int32} (hv : x ||| y = v) (hd : decode B pc = .ok (.ior, 1)) (hp : pc + 1 = pc') (k : Gt p.tables e below F (T.setTop (mkF m pc' L (.int v :: rest)))) : Gt p.tables e below F (T.setTop (mkF m pc L (.int y :: .int x :: rest))) := by
  subst hp; exact (by subst hv; exact k.go fun t q => XS.ior X.here hx rfl (hb hby hd) rfl q)
theorem own_ixor (X : Stand p l e R s m args below meth c T locs cells slots) (hx : p.tables.exec = Jvm.exec) (hby : c.code = B) {x y v : Int32} (hv : x ^^^ y = v) (hd : decode B pc = .ok (.ixor, 1)) (hp : pc + 1 = pc') (k : Gt p.tables e below F (T.setTop (mkF m pc' L (.int v :: rest)))) : Gt p.tables e below F (T.setTop (mkF m pc L (.int y :: .int x :: rest))) := by
  subst hp; exact (by subst hv; exact k.go fun t q => XS.ixor X.here hx rfl (hb hby hd) rfl q)
theorem own_ishl (X : Stand p l e R s m args below meth c T locs cells slots) (hx : p.tables.exec = Jvm.exec) (hby : c.code = B) {x y v : Int32} (hv : x <<< (y &&& 31) = v) (hd : decode B pc = .ok (.ishl, 1)) (hp : pc + 1 = pc') (k : Gt p.tables e below F (T.setTop (mkF m pc' L (.int v :: rest)))) : Gt p.tables e below F (T.setTop (mkF m pc L (.int y :: .int x :: rest))) := by
  subst hp; exact (by subst hv; exact k.go fun t q => XS.ishl X.here hx rfl (hb hby hd) rfl q)
theorem own_ishr (X : Stand p l e R s m args below meth c T locs cells slots) (hx : p.tables.exec = Jvm.exec) (hby : c.code = B) {x y v : Int32} (hv : x >>> (y &&& 31) = v) (hd : decode B pc = .ok (.ishr, 1)) (hp : pc + 1 = pc') (k : Gt p.tables e below F (T.setTop (mkF m pc' L (.int v :: rest)))) : Gt p.tables e below F (T.setTop (mkF m pc L (.int y :: .int x :: rest))) := by
  subst hp; exact (by subst hv; exact k.go fun t q => XS.ishr X.here hx rfl (hb hby hd) rfl q)
theorem own_iushr (X : Stand p l e R s m args below meth c T locs cells slots) (hx : p.tables.exec = Jvm.exec) (hby : c.code = B) {x y v : Int32} (hv : (x.toUInt32 >>> (y &&& 31).toUInt32).toInt32 = v) (hd : decode B pc = .ok (.iushr, 1)) (hp : pc + 1 = pc') (k : Gt p.tables e below F (T.setTop (mkF m pc' L (.int v :: rest)))) : Gt p.tables e below F (T.setTop (mkF m pc L (.int y :: .int x :: rest))) := by
  subst hp; exact (by subst hv; exact k.go fun t q => XS.iushr X.here hx rfl (hb hby hd) rfl q)
theorem own_ladd (X : Stand p l e R s m args below meth c T locs cells slots) (hx : p.tables.exec = Jvm.exec) (hby : c.code = B) {x y v : Int64} (hv : x + y = v) (hd : decode B pc = .ok (.ladd, 1)) (hp : pc + 1 = pc') (k : Gt p.tables e below F (T.setTop (mkF m pc' L (.long v :: rest)))) : Gt p.tables e below F (T.setTop (mkF m pc L (.long y :: .long x :: rest))) := by
  subst hp; exact (by subst hv; exact k.go fun t q => XS.ladd X.here hx rfl (hb hby hd) rfl q)
theorem own_lsub (X : Stand p l e R s m args below meth c T locs cells slots) (hx : p.tables.exec = Jvm.exec) (hby : c.code = B) {x y v : Int64} (hv : x - y = v) (hd : decode B pc = .ok (.lsub, 1)) (hp : pc + 1 = pc') (k : Gt p.tables e below F (T.setTop (mkF m pc' L (.long v :: rest)))) : Gt p.tables e below F (T.setTop (mkF m pc L (.long y :: .long x :: rest))) := by
  subst hp; exact (by subst hv; exact k.go fun t q => XS.lsub X.here hx rfl (hb hby hd) rfl q)
theorem own_lmul (X : Stand p l e R s m args below meth c T locs cells slots) (hx : p.tables.exec = Jvm.exec) (hby : c.code = B) {x y v : Int64} (hv : x * y = v) (hd : decode B pc = .ok (.lmul, 1)) (hp : pc + 1 = pc') (k : Gt p.tables e below F (T.setTop (mkF m pc' L (.long v :: rest)))) : Gt p.tables e below F (T.setTop (mkF m pc L (.long y :: .long x :: rest))) := by
  subst hp; exact (by subst hv; exact k.go fun t q => XS.lmul X.here hx rfl (hb hby hd) rfl q)
theorem own_land (X : Stand p l e R s m args below meth c T locs cells slots) (hx : p.tables.exec = Jvm.exec) (hby : c.code = B) {x y v : Int64} (hv : x &&& y = v) (hd : decode B pc = .ok (.land, 1)) (hp : pc + 1 = pc') (k : Gt p.tables e below F (T.setTop (mkF m pc' L (.long v :: rest)))) : Gt p.tables e below F (T.setTop (mkF m pc L (.long y :: .long x :: rest))) := by
  subst hp; exact (by subst hv; exact k.go fun t q => XS.land X.here hx rfl (hb hby hd) rfl q)
theorem own_lor (X : Stand p l e R s m args below meth c T locs cells slots) (hx : p.tables.exec = Jvm.exec) (hby : c.code = B) {x y v : Int64} (hv : x ||| y = v) (hd : decode B pc = .ok (.lor, 1)) (hp : pc + 1 = pc') (k : Gt p.tables e below F (T.setTop (mkF m pc' L (.long v :: rest)))) : Gt p.tables e below F (T.setTop (mkF m pc L (.long y :: .long x :: rest))) := by
  subst hp; exact (by subst hv; exact k.go fun t q => XS.lor X.here hx rfl (hb hby hd) rfl q)
theorem own_lxor (X : Stand p l e R s m args below meth c T locs cells slots) (hx : p.tables.exec = Jvm.exec) (hby : c.code = B) {x y v : Int64} (hv : x ^^^ y = v) (hd : decode B pc = .ok (.lxor, 1)) (hp : pc + 1 = pc') (k : Gt p.tables e below F (T.setTop (mkF m pc' L (.long v :: rest)))) : Gt p.tables e below F (T.setTop (mkF m pc L (.long y :: .long x :: rest))) := by
  subst hp; exact (by subst hv; exact k.go fun t q => XS.lxor X.here hx rfl (hb hby hd) rfl q)
theorem own_lshl (X : Stand p l e R s m args below meth c T locs cells slots) (hx : p.tables.exec = Jvm.exec) (hby : c.code = B) {x v : Int64} {y : Int32} (hv : x <<< (y &&& 0x3f).toInt64 = v) (hd : decode B pc = .ok (.lshl, 1)) (hp : pc + 1 = pc') (k : Gt p.tables e below F (T.setTop (mkF m pc' L (.long v :: rest)))) : Gt p.tables e below F (T.setTop (mkF m pc L (.int y :: .long x :: rest))) := by
  subst hp; exact (by subst hv; exact k.go fun t q => XS.lshl X.here hx rfl (hb hby hd) rfl q)
theorem own_lshr (X : Stand p l e R s m args below meth c T locs cells slots) (hx : p.tables.exec = Jvm.exec) (hby : c.code = B) {x v : Int64} {y : Int32} (hv : x >>> (y &&& 0x3f).toInt64 = v) (hd : decode B pc = .ok (.lshr, 1)) (hp : pc + 1 = pc') (k : Gt p.tables e below F (T.setTop (mkF m pc' L (.long v :: rest)))) : Gt p.tables e below F (T.setTop (mkF m pc L (.int y :: .long x :: rest))) := by
  subst hp; exact (by subst hv; exact k.go fun t q => XS.lshr X.here hx rfl (hb hby hd) rfl q)
theorem own_lushr (X : Stand p l e R s m args below meth c T locs cells slots) (hx : p.tables.exec = Jvm.exec) (hby : c.code = B) {x v : Int64} {y : Int32} (hv : (x.toUInt64 >>> (y &&& 0x3f).toInt64.toUInt64).toInt64 = v) (hd : decode B pc = .ok (.lushr, 1)) (hp : pc + 1 = pc') (k : Gt p.tables e below F (T.setTop (mkF m pc' L (.long v :: rest)))) : Gt p.tables e below F (T.setTop (mkF m pc L (.int y :: .long x :: rest))) := by
  subst hp; exact (by subst hv; exact k.go fun t q => XS.lushr X.here hx rfl (hb hby hd) rfl q)
theorem own_idiv (X : Stand p l e R s m args below meth c T locs cells slots) (hx : p.tables.exec = Jvm.exec) (hby : c.code = B) {x y v : Int32} (hy : y ≠ 0) (hv : x / y = v) (hd : decode B pc = .ok (.idiv, 1)) (hp : pc + 1 = pc') (k : Gt p.tables e below F (T.setTop (mkF m pc' L (.int v :: rest)))) : Gt p.tables e below F (T.setTop (mkF m pc L (.int y :: .int x :: rest))) := by
  subst hp; exact (by subst hv; exact k.go fun t q => XS.idiv X.here hx rfl (hb hby hd) rfl hy q)
theorem own_irem (X : Stand p l e R s m args below meth c T locs cells slots) (hx : p.tables.exec = Jvm.exec) (hby : c.code = B) {x y v : Int32} (hy : y ≠ 0) (hv : x % y = v) (hd : decode B pc = .ok (.irem, 1)) (hp : pc + 1 = pc') (k : Gt p.tables e below F (T.setTop (mkF m pc' L (.int v :: rest)))) : Gt p.tables e below F (T.setTop (mkF m pc L (.int y :: .int x :: rest))) := by
  subst hp; exact (by subst hv; exact k.go fun t q => iremM X hx rfl (hb hby hd) rfl hy q)
theorem own_ldiv (X : Stand p l e R s m args below meth c T locs cells slots) (hx : p.tables.exec = Jvm.exec) (hby : c.code = B) {x y v : Int64} (hy : y ≠ 0) (hv : x / y = v) (hd : decode B pc = .ok (.ldiv, 1)) (hp : pc + 1 = pc') (k : Gt p.tables e below F (T.setTop (mkF m pc' L (.long v :: rest)))) : Gt p.tables e below F (T.setTop (mkF m pc L (.long y :: .long x :: rest))) := by
  subst hp; exact (by subst hv; exact k.go fun t q => XS.ldiv X.here hx rfl (hb hby hd) rfl hy q)
theorem own_lrem (X : Stand p l e R s m args below meth c T locs cells slots) (hx : p.tables.exec = Jvm.exec) (hby : c.code = B) {x y v : Int64} (hy : y ≠ 0) (hv : x % y = v) (hd : decode B pc = .ok (.lrem, 1)) (hp : pc + 1 = pc') (k : Gt p.tables e below F (T.setTop (mkF m pc' L (.long v :: rest)))) : Gt p.tables e below F (T.setTop (mkF m pc L (.long y :: .long x :: rest))) := by
  subst hp; exact (by subst hv; rw [← lrem_mod] at k; exact k.go fun t q => XS.lrem X.here hx rfl (hb hby hd) rfl hy q)
theorem own_lcmp (X : Stand p l e R s m args below meth c T locs cells slots) (hx : p.tables.exec = Jvm.exec) (hby : c.code = B) {x y : Int64} {v : Int32} (hv : (if x > y then 1 else if x = y then 0 else -1 : Int32) = v) (hd : decode B pc = .ok (.lcmp, 1)) (hp : pc + 1 = pc') (k : Gt p.tables e below F (T.setTop (mkF m pc' L (.int v :: rest)))) : Gt p.tables e below F (T.setTop (mkF m pc L (.long y :: .long x :: rest))) := by
  subst hp; exact (by subst hv; exact k.go fun t q => XS.lcmp X.here hx rfl (hb hby hd) rfl q)
theorem own_ineg (X : Stand p l e R s m args below meth c T locs cells slots) (hx : p.tables.exec = Jvm.exec) (hby : c.code = B) {x v : Int32} (hv : -x = v) (hd : decode B pc = .ok (.ineg, 1)) (hp : pc + 1 = pc') (k : Gt p.tables e below F (T.setTop (mkF m pc' L (.int v :: rest)))) : Gt p.tables e below F (T.setTop (mkF m pc L (.int x :: rest))) := by
  subst hp; exact (by subst hv; exact k.go fun t q => XS.ineg X.here hx rfl (hb hby hd) rfl q)
theorem own_lneg (X : Stand p l e R s m args below meth c T locs cells slots) (hx : p.tables.exec = Jvm.exec) (hby : c.code = B) {x v : Int64} (hv : -x = v) (hd : decode B pc = .ok (.lneg, 1)) (hp : pc + 1 = pc') (k : Gt p.tables e below F (T.setTop (mkF m pc' L (.long v :: rest)))) : Gt p.tables e below F (T.setTop (mkF m pc L (.long x :: rest))) := by
  subst hp; exact (by subst hv; exact k.go fun t q => XS.lneg X.here hx rfl (hb hby hd) rfl q)
theorem own_i2b (X : Stand p l e R s m args below meth c T locs cells slots) (hx : p.tables.exec = Jvm.exec) (hby : c.code = B) {x v : Int32} (hv : x.toInt8.toInt32 = v) (hd : decode B pc = .ok (.i2b, 1)) (hp : pc + 1 = pc') (k : Gt p.tables e below F (T.setTop (mkF m pc' L (.int v :: rest)))) : Gt p.tables e below F (T.setTop (mkF m pc L (.int x :: rest))) := by
  subst hp; exact (by subst hv; exact k.go fun t q => XS.i2b X.here hx rfl (hb hby hd) rfl q)
theorem own_i2c (X : Stand p l e R s m args below meth c T locs cells slots) (hx : p.tables.exec = Jvm.exec) (hby : c.code = B) {x v : Int32} (hv : x.toUInt32.toUInt16.toUInt32.toInt32 = v) (hd : decode B pc = .ok (.i2c, 1)) (hp : pc + 1 = pc') (k : Gt p.tables e below F (T.setTop (mkF m pc' L (.int v :: rest)))) : Gt p.tables e below F (T.setTop (mkF m pc L (.int x :: rest))) := by
  subst hp; exact (by subst hv; exact k.go fun t q => XS.i2c X.here hx rfl (hb hby hd) rfl q)
theorem own_i2s (X : Stand p l e R s m args below meth c T locs cells slots) (hx : p.tables.exec = Jvm.exec) (hby : c.code = B) {x v : Int32} (hv : x.toInt16.toInt32 = v) (hd : decode B pc = .ok (.i2s, 1)) (hp : pc + 1 = pc') (k : Gt p.tables e below F (T.setTop (mkF m pc' L (.int v :: rest)))) : Gt p.tables e below F (T.setTop (mkF m pc L (.int x :: rest))) := by
  subst hp; exact (by subst hv; exact k.go fun t q => XS.i2s X.here hx rfl (hb hby hd) rfl q)
theorem own_i2l (X : Stand p l e R s m args below meth c T locs cells slots) (hx : p.tables.exec = Jvm.exec) (hby : c.code = B) {x : Int32} {v : Int64} (hv : x.toInt64 = v) (hd : decode B pc = .ok (.i2l, 1)) (hp : pc + 1 = pc') (k : Gt p.tables e below F (T.setTop (mkF m pc' L (.long v :: rest)))) : Gt p.tables e below F (T.setTop (mkF m pc L (.int x :: rest))) := by
  subst hp; exact (by subst hv; exact k.go fun t q => XS.i2l X.here hx rfl (hb hby hd) rfl q)
theorem own_l2i (X : Stand p l e R s m args below meth c T locs cells slots) (hx : p.tables.exec = Jvm.exec) (hby : c.code = B) {x : Int64} {v : Int32} (hv : x.toInt32 = v) (hd : decode B pc = .ok (.l2i, 1)) (hp : pc + 1 = pc') (k : Gt p.tables e below F (T.setTop (mkF m pc' L (.int v :: rest)))) : Gt p.tables e below F (T.setTop (mkF m pc L (.long x :: rest))) := by
  subst hp; exact (by subst hv; exact k.go fun t q => XS.l2i X.here hx rfl (hb hby hd) rfl q)
theorem own_iload (X : Stand p l e R s m args below meth c T locs cells slots) (hx : p.tables.exec = Jvm.exec) (hby : c.code = B) {i : Nat} {v : Int32} (hl : L[i]? = some (.val (.int v))) (hd : decode B pc = .ok (.iload i, 2)) (hp : pc + 2 = pc') (k : Gt p.tables e below F (T.setTop (mkF m pc' L (.int v :: rest)))) : Gt p.tables e below F (T.setTop (mkF m pc L rest)) := by
  subst hp; exact k.go fun t q => XS.iload X.here hx rfl (hb hby hd) hl q
theorem own_iloadN (X : Stand p l e R s m args below meth c T locs cells slots) (hx : p.tables.exec = Jvm.exec) (hby : c.code = B) {i : Fin 4} {v : Int32} (hl : L[i.val]? = some (.val (.int v))) (hd : decode B pc = .ok (.iload_n i, 1)) (hp : pc + 1 = pc') (k : Gt p.tables e below F (T.setTop (mkF m pc' L (.int v :: rest)))) : Gt p.tables e below F (T.setTop (mkF m pc L rest)) := by
  subst hp; exact k.go fun t q => XS.iloadN X.here hx rfl (hb hby hd) hl q
theorem own_lload (X : Stand p l e R s m args below meth c T locs cells slots) (hx : p.tables.exec = Jvm.exec) (hby : c.code = B) {i : Nat} {v : Int64} (hl : L[i]? = some (.val (.long v))) (hd : decode B pc = .ok (.lload i, 2)) (hp : pc + 2 = pc') (k : Gt p.tables e below F (T.setTop (mkF m pc' L (.long v :: rest)))) : Gt p.tables e below F (T.setTop (mkF m pc L rest)) := by
  subst hp; exact k.go fun t q => XS.lload X.here hx rfl (hb hby hd) hl q
theorem own_lloadN (X : Stand p l e R s m args below meth c T locs cells slots) (hx : p.tables.exec = Jvm.exec) (hby : c.code = B) {i : Fin 4} {v : Int64} (hl : L[i.val]? = some (.val (.long v))) (hd : decode B pc = .ok (.lload_n i, 1)) (hp : pc + 1 = pc') (k : Gt p.tables e below F (T.setTop (mkF m pc' L (.long v :: rest)))) : Gt p.tables e below F (T.setTop (mkF m pc L rest)) := by
  subst hp; exact k.go fun t q => XS.lloadN X.here hx rfl (hb hby hd) hl q
theorem own_dload (X : Stand p l e R s m args below meth c T locs cells slots) (hx : p.tables.exec = Jvm.exec) (hby : c.code = B) {i : Nat} {v : UInt64} (hl : L[i]? = some (.val (.double v))) (hd : decode B pc = .ok (.dload i, 2)) (hp : pc + 2 = pc') (k : Gt p.tables e below F (T.setTop (mkF m pc' L (.double v :: rest)))) : Gt p.tables e below F (T.setTop (mkF m pc L rest)) := by
  subst hp; exact k.go fun t q => XS.dload X.here hx rfl (hb hby hd) hl q
theorem own_dloadN (X : Stand p l e R s m args below meth c T locs cells slots) (hx : p.tables.exec = Jvm.exec) (hby : c.code = B) {i : Fin 4} {v : UInt64} (hl : L[i.val]? = some (.val (.double v))) (hd : decode B pc = .ok (.dload_n i, 1)) (hp : pc + 1 = pc') (k : Gt p.tables e below F (T.setTop (mkF m pc' L (.double v :: rest)))) : Gt p.tables e below F (T.setTop (mkF m pc L rest)) := by
  subst hp; exact k.go fun t q => XS.dloadN X.here hx rfl (hb hby hd) hl q
theorem own_aload (X : Stand p l e R s m args below meth c T locs cells slots) (hx : p.tables.exec = Jvm.exec) (hby : c.code = B) {i : Nat} {v : Value} (hl : L[i]? = some (.val v)) (hr : v.isRef = true) (hd : decode B pc = .ok (.aload i, 2)) (hp : pc + 2 = pc') (k : Gt p.tables e below F (T.setTop (mkF m pc' L (v :: rest)))) : Gt p.tables e below F (T.setTop (mkF m pc L rest)) := by
  subst hp; exact k.go fun t q => XS.aload X.here hx rfl (hb hby hd) hl hr q
theorem own_aloadN (X : Stand p l e R s m args below meth c T locs cells slots) (hx : p.tables.exec = Jvm.exec) (hby : c.code = B) {i : Fin 4} {v : Value} (hl : L[i.val]? = some (.val v)) (hr : v.isRef = true) (hd : decode B pc = .ok (.aload_n i, 1)) (hp : pc + 1 = pc') (k : Gt p.tables e below F (T.setTop (mkF m pc' L (v :: rest)))) : Gt p.tables e below F (T.setTop (mkF m pc L rest)) := by
  subst hp; exact k.go fun t q => XS.aloadN X.here hx rfl (hb hby hd) hl hr q
theorem own_istore (X : Stand p l e R s m args below meth c T locs cells slots) (hx : p.tables.exec = Jvm.exec) (hby : c.code = B) {i : Nat} {v : Int32} (hl : storeLocals L i (.int v) = some L') (hd : decode B pc = .ok (.istore i, 2)) (hp : pc + 2 = pc') (k : Gt p.tables e below F (T.setTop (mkF m pc' L' rest))) : Gt p.tables e below F (T.setTop (mkF m pc L (.int v :: rest))) := by
  subst hp; exact k.go fun t q => XS.istore X.here hx rfl (hb hby hd) rfl hl q
theorem own_istoreN (X : Stand p l e R s m args below meth c T locs cells slots) (hx : p.tables.exec = Jvm.exec) (hby : c.code = B) {i : Fin 4} {v : Int32} (hl : storeLocals L i.val (.int v) = some L') (hd : decode B pc = .ok (.istore_n i, 1)) (hp : pc + 1 = pc') (k : Gt p.tables e below F (T.setTop (mkF m pc' L' rest))) : Gt p.tables e below F (T.setTop (mkF m pc L (.int v :: rest))) := by
  subst hp; exact k.go fun t q => XS.istoreN X.here hx rfl (hb hby hd) rfl hl q
theorem own_lstore (X : Stand p l e R s m args below meth c T locs cells slots) (hx : p.tables.exec = Jvm.exec) (hby : c.code = B) {i : Nat} {v : Int64} (hl : storeLocals L i (.long v) = some L') (hd : decode B pc = .ok (.lstore i, 2)) (hp : pc + 2 = pc') (k : Gt p.tables e below F (T.setTop (mkF m pc' L' rest))) : Gt p.tables e below F (T.setTop (mkF m pc L (.long v :: rest))) := by
  subst hp; exact k.go fun t q => XS.lstore X.here hx rfl (hb hby hd) rfl hl q
theorem own_lstoreN (X : Stand p l e R s m args below meth c T locs cells slots) (hx : p.tables.exec = Jvm.exec) (hby : c.code = B) {i : Fin 4} {v : Int64} (hl : storeLocals L i.val (.long v) = some L') (hd : decode B pc = .ok (.lstore_n i, 1)) (hp : pc + 1 = pc') (k : Gt p.tables e below F (T.setTop (mkF m pc' L' rest))) : Gt p.tables e below F (T.setTop (mkF m pc L (.long v :: rest))) := by
  subst hp; exact k.go fun t q => XS.lstoreN X.here hx rfl (hb hby hd) rfl hl q
theorem own_dstore (X : Stand p l e R s m args below meth c T locs cells slots) (hx : p.tables.exec = Jvm.exec) (hby : c.code = B) {i : Nat} {v : UInt64} (hl : storeLocals L i (.double v) = some L') (hd : decode B pc = .ok (.dstore i, 2)) (hp : pc + 2 = pc') (k : Gt p.tables e below F (T.setTop (mkF m pc' L' rest))) : Gt p.tables e below F (T.setTop (mkF m pc L (.double v :: rest))) := by
  subst hp; exact k.go fun t q => XS.dstore X.here hx rfl (hb hby hd) rfl hl q
theorem own_dstoreN (X : Stand p l e R s m args below meth c T locs cells slots) (hx : p.tables.exec = Jvm.exec) (hby : c.code = B) {i : Fin 4} {v : UInt64} (hl : storeLocals L i.val (.double v) = some L') (hd : decode B pc = .ok (.dstore_n i, 1)) (hp : pc + 1 = pc') (k : Gt p.tables e below F (T.setTop (mkF m pc' L' rest))) : Gt p.tables e below F (T.setTop (mkF m pc L (.double v :: rest))) := by
  subst hp; exact k.go fun t q => XS.dstoreN X.here hx rfl (hb hby hd) rfl hl q
theorem own_astore (X : Stand p l e R s m args below meth c T locs cells slots) (hx : p.tables.exec = Jvm.exec) (hby : c.code = B) {i : Nat} {v : Value} (hr : v.isRef = true) (hl : storeLocals L i v = some L') (hd : decode B pc = .ok (.astore i, 2)) (hp : pc + 2 = pc') (k : Gt p.tables e below F (T.setTop (mkF m pc' L' rest))) : Gt p.tables e below F (T.setTop (mkF m pc L (v :: rest))) := by
  subst hp; exact k.go fun t q => XS.astore X.here hx rfl (hb hby hd) rfl hr hl q
theorem own_astoreN (X : Stand p l e R s m args below meth c T locs cells slots) (hx : p.tables.exec = Jvm.exec) (hby : c.code = B) {i : Fin 4} {v : Value} (hr : v.isRef = true) (hl : storeLocals L i.val v = some L') (hd : decode B pc = .ok (.astore_n i, 1)) (hp : pc + 1 = pc') (k : Gt p.tables e below F (T.setTop (mkF m pc' L' rest))) : Gt p.tables e below F (T.setTop (mkF m pc L (v :: rest))) := by
  subst hp; exact k.go fun t q => XS.astoreN X.here hx rfl (hb hby hd) rfl hr hl q
theorem own_iinc (X : Stand p l e R s m args below meth c T locs cells slots) (hx : p.tables.exec = Jvm.exec) (hby : c.code = B) {i : Nat} {cst : Int} {x : Int32} (hl : L[i]? = some (.val (.int x))) (hl' : storeLocals L i (.int (x + Int32.ofInt cst)) = some L') (hd : decode B pc = .ok (.iinc i cst, 3)) (hp : pc + 3 = pc') (k : Gt p.tables e below F (T.setTop (mkF m pc' L' rest))) : Gt p.tables e below F (T.setTop (mkF m pc L rest)) := by
  subst hp; exact k.go fun t q => XS.iinc X.here hx rfl (hb hby hd) hl hl' q
theorem own_iconst (X : Stand p l e R s m args below meth c T locs cells slots) (hx : p.tables.exec = Jvm.exec) (hby : c.code = B) {i : Int} {v : Int32} (hv : Int32.ofInt i = v) (hd : decode B pc = .ok (.iconst i, 1)) (hp : pc + 1 = pc') (k : Gt p.tables e below F (T.setTop (mkF m pc' L (.int v :: rest)))) : Gt p.tables e below F (T.setTop (mkF m pc L rest)) := by
  subst hp; exact (by subst hv; exact k.go fun t q => XS.iconst X.here hx rfl (hb hby hd) q)
theorem own_bipush (X : Stand p l e R s m args below meth c T locs cells slots) (hx : p.tables.exec = Jvm.exec) (hby : c.code = B) {i : Int} {v : Int32} (hv : (Int8.ofInt i).toInt32 = v) (hd : decode B pc = .ok (.bipush i, 2)) (hp : pc + 2 = pc') (k : Gt p.tables e below F (T.setTop (mkF m pc' L (.int v :: rest)))) : Gt p.tables e below F (T.setTop (mkF m pc L rest)) := by
  subst hp; exact (by subst hv; exact k.go fun t q => XS.bipush X.here hx rfl (hb hby hd) q)
theorem own_sipush (X : Stand p l e R s m args below meth c T locs cells slots) (hx : p.tables.exec = Jvm.exec) (hby : c.code = B) {i : Int} {v : Int32} (hv : (Int16.ofInt i).toInt32 = v) (hd : decode B pc = .ok (.sipush i, 3)) (hp : pc + 3 = pc') (k : Gt p.tables e below F (T.setTop (mkF m pc' L (.int v :: rest)))) : Gt p.tables e below F (T.setTop (mkF m pc L rest)) := by
  subst hp; exact (by subst hv; exact k.go fun t q => XS.sipush X.here hx rfl (hb hby hd) q)
theorem own_lconst (X : Stand p l e R s m args below meth c T locs cells slots) (hx : p.tables.exec = Jvm.exec) (hby : c.code = B) {i : Fin 2} {v : Int64} (hv : Int64.ofNat i = v) (hd : decode B pc = .ok (.lconst i, 1)) (hp : pc + 1 = pc') (k : Gt p.tables e below F (T.setTop (mkF m pc' L (.long v :: rest)))) : Gt p.tables e below F (T.setTop (mkF m pc L rest)) := by
  subst hp; exact (by subst hv; exact k.go fun t q => XS.lconst X.here hx rfl (hb hby hd) q)
theorem own_aconst (X : Stand p l e R s m args below meth c T locs cells slots) (hx : p.tables.exec = Jvm.exec) (hby : c.code = B)  (hd : decode B pc = .ok (.aconst_null, 1)) (hp : pc + 1 = pc') (k : Gt p.tables e below F (T.setTop (mkF m pc' L (.null :: rest)))) : Gt p.tables e below F (T.setTop (mkF m pc L rest)) := by
  subst hp; exact k.go fun t q => XS.aconstNull X.here hx rfl (hb hby hd) q
theorem own_dconst0 (X : Stand p l e R s m args below meth c T locs cells slots) (hx : p.tables.exec = Jvm.exec) (hby : c.code = B) {v : UInt64} (hv : FP.dconst0 = v) (hd : decode B pc = .ok (.dconst 0, 1)) (hp : pc + 1 = pc') (k : Gt p.tables e below F (T.setTop (mkF m pc' L (.double v :: rest)))) : Gt p.tables e below F (T.setTop (mkF m pc L rest)) := by
  subst hp; exact k.go fun t q => XS.dconst0 X.here hx rfl (hb hby hd) hv q
theorem own_dconst1 (X : Stand p l e R s m args below meth c T locs cells slots) (hx : p.tables.exec = Jvm.exec) (hby : c.code = B) {v : UInt64} (hv : FP.dconst1 = v) (hd : decode B pc = .ok (.dconst 1, 1)) (hp : pc + 1 = pc') (k : Gt p.tables e below F (T.setTop (mkF m pc' L (.double v :: rest)))) : Gt p.tables e below F (T.setTop (mkF m pc L rest)) := by
  subst hp; exact k.go fun t q => XS.dconst1 X.here hx rfl (hb hby hd) hv q
theorem own_dadd (X : Stand p l e R s m args below meth c T locs cells slots) (hx : p.tables.exec = Jvm.exec) (hby : c.code = B) {x y v : UInt64} (hn : NoNaN64 (FP.dadd x y)) (hv : FP.dadd x y = v) (hd : decode B pc = .ok (.dadd, 1)) (hp : pc + 1 = pc') (k : Gt p.tables e below F (T.setTop (mkF m pc' L (.double v :: rest)))) : Gt p.tables e below F (T.setTop (mkF m pc L (.double y :: .double x :: rest))) := by
  subst hp; exact k.go fun t q => XS.daddS X.here hx rfl (hb hby hd) rfl hn hv q
theorem own_dsub (X : Stand p l e R s m args below meth c T locs cells slots) (hx : p.tables.exec = Jvm.exec) (hby : c.code = B) {x y v : UInt64} (hn : NoNaN64 (FP.dsub x y)) (hv : FP.dsub x y = v) (hd : decode B pc = .ok (.dsub, 1)) (hp : pc + 1 = pc') (k : Gt p.tables e below F (T.setTop (mkF m pc' L (.double v :: rest)))) : Gt p.tables e below F (T.setTop (mkF m pc L (.double y :: .double x :: rest))) := by
  subst hp; exact k.go fun t q => XS.dsubS X.here hx rfl (hb hby hd) rfl hn hv q
theorem own_dmul (X : Stand p l e R s m args below meth c T locs cells slots) (hx : p.tables.exec = Jvm.exec) (hby : c.code = B) {x y v : UInt64} (hn : NoNaN64 (FP.dmul x y)) (hv : FP.dmul x y = v) (hd : decode B pc = .ok (.dmul, 1)) (hp : pc + 1 = pc') (k : Gt p.tables e below F (T.setTop (mkF m pc' L (.double v :: rest)))) : Gt p.tables e below F (T.setTop (mkF m pc L (.double y :: .double x :: rest))) := by
  subst hp; exact k.go fun t q => XS.dmulS X.here hx rfl (hb hby hd) rfl hn hv q
theorem own_ddiv (X : Stand p l e R s m args below meth c T locs cells slots) (hx : p.tables.exec = Jvm.exec) (hby : c.code = B) {x y v : UInt64} (hn : NoNaN64 (FP.ddiv x y)) (hv : FP.ddiv x y = v) (hd : decode B pc = .ok (.ddiv, 1)) (hp : pc + 1 = pc') (k : Gt p.tables e below F (T.setTop (mkF m pc' L (.double v :: rest)))) : Gt p.tables e below F (T.setTop (mkF m pc L (.double y :: .double x :: rest))) := by
  subst hp; exact k.go fun t q => XS.ddivS X.here hx rfl (hb hby hd) rfl hn hv q
theorem own_dneg (X : Stand p l e R s m args below meth c T locs cells slots) (hx : p.tables.exec = Jvm.exec) (hby : c.code = B) {x v : UInt64} (hv : FP.dneg x = v) (hd : decode B pc = .ok (.dneg, 1)) (hp : pc + 1 = pc') (k : Gt p.tables e below F (T.setTop (mkF m pc' L (.double v :: rest)))) : Gt p.tables e below F (T.setTop (mkF m pc L (.double x :: rest))) := by
  subst hp; exact k.go fun t q => XS.dnegS X.here hx rfl (hb hby hd) rfl hv q
theorem own_dcmp (X : Stand p l e R s m args below meth c T locs cells slots) (hx : p.tables.exec = Jvm.exec) (hby : c.code = B) {o : CmpOp} {x y : UInt64} {v : Int32} (hv : cmpValue (FP.dcmp x y) o = v) (hd : decode B pc = .ok (.dcmp o, 1)) (hp : pc + 1 = pc') (k : Gt p.tables e below F (T.setTop (mkF m pc' L (.int v :: rest)))) : Gt p.tables e below F (T.setTop (mkF m pc L (.double y :: .double x :: rest))) := by
  subst hp; exact k.go fun t q => XS.dcmpS X.here hx rfl (hb hby hd) rfl hv q
theorem own_i2d (X : Stand p l e R s m args below meth c T locs cells slots) (hx : p.tables.exec = Jvm.exec) (hby : c.code = B) {x : Int32} {v : UInt64} (hv : FP.i2d x = v) (hd : decode B pc = .ok (.i2d, 1)) (hp : pc + 1 = pc') (k : Gt p.tables e below F (T.setTop (mkF m pc' L (.double v :: rest)))) : Gt p.tables e below F (T.setTop (mkF m pc L (.int x :: rest))) := by
  subst hp; exact k.go fun t q => XS.i2dS X.here hx rfl (hb hby hd) rfl hv q
theorem own_l2d (X : Stand p l e R s m args below meth c T locs cells slots) (hx : p.tables.exec = Jvm.exec) (hby : c.code = B) {x : Int64} {v : UInt64} (hv : FP.l2d x = v) (hd : decode B pc = .ok (.l2d, 1)) (hp : pc + 1 = pc') (k : Gt p.tables e below F (T.setTop (mkF m pc' L (.double v :: rest)))) : Gt p.tables e below F (T.setTop (mkF m pc L (.long x :: rest))) := by
  subst hp; exact k.go fun t q => XS.l2dS X.here hx rfl (hb hby hd) rfl hv q
theorem own_dup (X : Stand p l e R s m args below meth c T locs cells slots) (hx : p.tables.exec = Jvm.exec) (hby : c.code = B) {x : Value} (hc : x.category = 1) (hd : decode B pc = .ok (.dup, 1)) (hp : pc + 1 = pc') (k : Gt p.tables e below F (T.setTop (mkF m pc' L (x :: x :: rest)))) : Gt p.tables e below F (T.setTop (mkF m pc L (x :: rest))) := by
  subst hp; exact k.go fun t q => XS.dup X.here hx rfl (hb hby hd) rfl hc q
theorem own_pop (X : Stand p l e R s m args below meth c T locs cells slots) (hx : p.tables.exec = Jvm.exec) (hby : c.code = B) {x : Value} (hc : x.category = 1) (hd : decode B pc = .ok (.pop, 1)) (hp : pc + 1 = pc') (k : Gt p.tables e below F (T.setTop (mkF m pc' L rest))) : Gt p.tables e below F (T.setTop (mkF m pc L (x :: rest))) := by
  subst hp; exact k.go fun t q => XS.pop X.here hx rfl (hb hby hd) rfl hc q
theorem own_dupX1 (X : Stand p l e R s m args below meth c T locs cells slots) (hx : p.tables.exec = Jvm.exec) (hby : c.code = B) {x y : Value} (hc : x.category = 1) (hc' : y.category = 1) (hd : decode B pc = .ok (.dup_x1, 1)) (hp : pc + 1 = pc') (k : Gt p.tables e below F (T.setTop (mkF m pc' L (x :: y :: x :: rest)))) : Gt p.tables e below F (T.setTop (mkF m pc L (x :: y :: rest))) := by
  subst hp; exact k.go fun t q => XS.dupX1 X.here hx rfl (hb hby hd) rfl hc hc' q
theorem own_dup2 (X : Stand p l e R s m args below meth c T locs cells slots) (hx : p.tables.exec = Jvm.exec) (hby : c.code = B) {x y : Value} (hc : x.category = 1) (hc' : y.category = 1) (hd : decode B pc = .ok (.dup2, 1)) (hp : pc + 1 = pc') (k : Gt p.tables e below F (T.setTop (mkF m pc' L (x :: y :: x :: y :: rest)))) : Gt p.tables e below F (T.setTop (mkF m pc L (x :: y :: rest))) := by
  subst hp; exact k.go fun t q => Jvm.Free.XT.dup2 X.here hx rfl (hb hby hd) rfl hc hc' q
theorem own_goto (X : Stand p l e R s m args below meth c T locs cells slots) (hx : p.tables.exec = Jvm.exec) (hby : c.code = B) {o : Int} (hd : decode B pc = .ok (.goto o, 3)) (ho : 0 ≤ (pc : Int) + o) (hp : ((pc : Int) + o).toNat = pc') (k : Gt p.tables e below F (T.setTop (mkF m pc' L rest))) : Gt p.tables e below F (T.setTop (mkF m pc L rest)) :=
  k.go fun t q => XS.goto X.here hx rfl rfl (hb hby hd) ho hp q
theorem own_ifT (X : Stand p l e R s m args below meth c T locs cells slots) (hx : p.tables.exec = Jvm.exec) (hby : c.code = B) {cd : ClassFile.Cond} {x : Int32} {o : Int} (hd : decode B pc = .ok (.ifCond cd o, 3)) (hc : ifCond.holds cd x = true) (ho : 0 ≤ (pc : Int) + o) (hp : ((pc : Int) + o).toNat = pc') (k : Gt p.tables e below F (T.setTop (mkF m pc' L rest))) : Gt p.tables e below F (T.setTop (mkF m pc L (.int x :: rest))) :=
  k.go fun t q => XS.ifYes X.here hx rfl rfl (hb hby hd) rfl hc ho hp q
theorem own_ifF (X : Stand p l e R s m args below meth c T locs cells slots) (hx : p.tables.exec = Jvm.exec) (hby : c.code = B) {cd : ClassFile.Cond} {x : Int32} {o : Int} (hd : decode B pc = .ok (.ifCond cd o, 3)) (hc : ifCond.holds cd x = false) (hp : pc + 3 = pc') (k : Gt p.tables e below F (T.setTop (mkF m pc' L rest))) : Gt p.tables e below F (T.setTop (mkF m pc L (.int x :: rest))) := by
  subst hp; exact k.go fun t q => XS.ifNo X.here hx rfl (hb hby hd) rfl hc q
theorem own_icT (X : Stand p l e R s m args below meth c T locs cells slots) (hx : p.tables.exec = Jvm.exec) (hby : c.code = B) {cd : ClassFile.Cond} {x y : Int32} {o : Int} (hd : decode B pc = .ok (.if_icmp cd o, 3)) (hc : if_icmp.holds cd x y = true) (ho : 0 ≤ (pc : Int) + o) (hp : ((pc : Int) + o).toNat = pc') (k : Gt p.tables e below F (T.setTop (mkF m pc' L rest))) : Gt p.tables e below F (T.setTop (mkF m pc L (.int y :: .int x :: rest))) :=
  k.go fun t q => XS.icmpYes X.here hx rfl rfl (hb hby hd) rfl hc ho hp q
theorem own_icF (X : Stand p l e R s m args below meth c T locs cells slots) (hx : p.tables.exec = Jvm.exec) (hby : c.code = B) {cd : ClassFile.Cond} {x y : Int32} {o : Int} (hd : decode B pc = .ok (.if_icmp cd o, 3)) (hc : if_icmp.holds cd x y = false) (hp : pc + 3 = pc') (k : Gt p.tables e below F (T.setTop (mkF m pc' L rest))) : Gt p.tables e below F (T.setTop (mkF m pc L (.int y :: .int x :: rest))) := by
  subst hp; exact k.go fun t q => XS.icmpNo X.here hx rfl (hb hby hd) rfl hc q
theorem own_ifnullT (X : Stand p l e R s m args below meth c T locs cells slots) (hx : p.tables.exec = Jvm.exec) (hby : c.code = B) {o : Int} (hd : decode B pc = .ok (.ifnull o, 3)) (ho : 0 ≤ (pc : Int) + o) (hp : ((pc : Int) + o).toNat = pc') (k : Gt p.tables e below F (T.setTop (mkF m pc' L rest))) : Gt p.tables e below F (T.setTop (mkF m pc L (.null :: rest))) :=
  k.go fun t q => XS.ifnullYes X.here hx rfl rfl (hb hby hd) rfl ho hp q
theorem own_ifnullF (X : Stand p l e R s m args below meth c T locs cells slots) (hx : p.tables.exec = Jvm.exec) (hby : c.code = B) {o : Int} {b : Addr} (hd : decode B pc = .ok (.ifnull o, 3)) (hp : pc + 3 = pc') (k : Gt p.tables e below F (T.setTop (mkF m pc' L rest))) : Gt p.tables e below F (T.setTop (mkF m pc L (.ref b :: rest))) := by
  subst hp; exact k.go fun t q => XS.ifnullNo X.here hx rfl (hb hby hd) rfl q
theorem own_ifnonnullT (X : Stand p l e R s m args below meth c T locs cells slots) (hx : p.tables.exec = Jvm.exec) (hby : c.code = B) {o : Int} {b : Addr} (hd : decode B pc = .ok (.ifnonnull o, 3)) (ho : 0 ≤ (pc : Int) + o) (hp : ((pc : Int) + o).toNat = pc') (k : Gt p.tables e below F (T.setTop (mkF m pc' L rest))) : Gt p.tables e below F (T.setTop (mkF m pc L (.ref b :: rest))) :=
  k.go fun t q => XS.ifnonnullYes X.here hx rfl rfl (hb hby hd) rfl ho hp q
theorem own_ifnonnullF (X : Stand p l e R s m args below meth c T locs cells slots) (hx : p.tables.exec = Jvm.exec) (hby : c.code = B) {o : Int} (hd : decode B pc = .ok (.ifnonnull o, 3)) (hp : pc + 3 = pc') (k : Gt p.tables e below F (T.setTop (mkF m pc' L rest))) : Gt p.tables e below F (T.setTop (mkF m pc L (.null :: rest))) := by
  subst hp; exact k.go fun t q => XS.ifnonnullNo X.here hx rfl (hb hby hd) rfl q
theorem own_acmp (X : Stand p l e R s m args below meth c T locs cells slots) (hx : p.tables.exec = Jvm.exec) (hby : c.code = B) {cd : ACond} {x y : Value} (h1 : x.isRef = true) (h2 : y.isRef = true) {o : Int} {same : Bool} (hd : decode B pc = .ok (.if_acmp cd o, 3)) (hq : decide (x = y) = same) (ho : 0 ≤ (pc : Int) + o) (hp : pc' = if acV cd same = true then ((pc : Int) + o).toNat else pc + 3) (k : Gt p.tables e below F (T.setTop (mkF m pc' L rest))) : Gt p.tables e below F (T.setTop (mkF m pc L (y :: x :: rest))) :=
  k.go fun t q => Jvm.RoadKit.acmp X hx rfl h1 h2 rfl (hb hby hd) rfl hq ho hp q
theorem own_ldcI (X : Stand p l e R s m args below meth c T locs cells slots) (hx : p.tables.exec = Jvm.exec) (hby : c.code = B) (hZ : Z.Warmed39 s.vm) {own : String} {i : Nat} {v : Int32} (hown : s.vm.findClass own = some m.cls) (w : (Jvm.Cond.constant own i v).before a0 Z = true) (hd : decode B pc = .ok (.ldc i, 2)) (hp : pc + 2 = pc') (k : Gt p.tables e below F (T.setTop (mkF m pc' L (.int v :: rest)))) : Gt p.tables e below F (T.setTop (mkF m pc L rest)) := by
  subst hp; exact k.go (X.ldcInt hx hown (mvT hZ w) (g := mkF m pc L rest) rfl (hb hby hd))
theorem own_ldc2L (X : Stand p l e R s m args below meth c T locs cells slots) (hx : p.tables.exec = Jvm.exec) (hby : c.code = B) (hZ : Z.Warmed39 s.vm) {own : String} {i : Nat} {v : Int64} (hown : s.vm.findClass own = some m.cls) (w : (Jvm.Cond.constantLong own i v).before a0 Z = true) (hd : decode B pc = .ok (.ldc2_w i, 3)) (hp : pc + 3 = pc') (k : Gt p.tables e below F (T.setTop (mkF m pc' L (.long v :: rest)))) : Gt p.tables e below F (T.setTop (mkF m pc L rest)) := by
  subst hp; exact k.go (X.ldc2Long hx hown (mvT hZ w) (g := mkF m pc L rest) rfl (hb hby hd))
theorem own_ldc2D (X : Stand p l e R s m args below meth c T locs cells slots) (hx : p.tables.exec = Jvm.exec) (hby : c.code = B) (hZ : Z.Warmed39 s.vm) {own : String} {i : Nat} {v : UInt64} (hown : s.vm.findClass own = some m.cls) (w : (Jvm.Cond.constantDouble own i v).before a0 Z = true) (hd : decode B pc = .ok (.ldc2_w i, 3)) (hp : pc + 3 = pc') (k : Gt p.tables e below F (T.setTop (mkF m pc' L (.double v :: rest)))) : Gt p.tables e below F (T.setTop (mkF m pc L rest)) := by
  subst hp; exact k.go (X.ldc2DoubleC hx hown (mvT hZ w) (g := mkF m pc L rest) rfl (hb hby hd))
theorem own_getF (X : Stand p l e R s m args below meth c T locs cells slots) (hx : p.tables.exec = Jvm.exec) (hby : c.code = B) (hZ : Z.Warmed39 s.vm) {own R0 O n d host : String} {index : Nat} (hown : s.vm.findClass own = some m.cls) (w : (Jvm.Cond.fieldLink own index R0 n d).before a0 Z = true ∨ (Jvm.Cond.fieldLinkNest own index R0 n d host).before a0 Z = true) (via : Via Z R0 O n d) (eT : T.heap = h) {a : Addr} {v : Value} (Ff : Fld Z h a O n d v) (hd : decode B pc = .ok (.getfield index, 3)) (hp : pc + 3 = pc') (k : ∀ T', Stand p l e R s m args below meth c T' locs cells slots → T'.heap = h → Gt p.tables e below F (T'.setTop (mkF m pc' L (v :: rest)))) : Gt p.tables e below F (T.setTop (mkF m pc L (.ref a :: rest))) := by
  subst hp; obtain ⟨T', X', e', st⟩ := getF X hx hZ hown w via eT Ff (g := mkF m pc L (.ref a :: rest)) rfl rfl (hb hby hd); exact (k T' X' e').go st
theorem own_getS (X : Stand p l e R s m args below meth c T locs cells slots) (hx : p.tables.exec = Jvm.exec) (hby : c.code = B) (hZ : Z.Warmed39 s.vm) {own R0 O n d host : String} {index : Nat} (hown : s.vm.findClass own = some m.cls) (w : (Jvm.Cond.fieldLink own index R0 n d).before a0 Z = true ∨ (Jvm.Cond.fieldLinkNest own index R0 n d host).before a0 Z = true) (via : Via Z R0 O n d) (eT : T.heap = h) {v : Value} (Ff : Sta Z h O n d v) (hd : decode B pc = .ok (.getstatic index, 3)) (hp : pc + 3 = pc') (k : ∀ T', Stand p l e R s m args below meth c T' locs cells slots → T'.heap = h → Gt p.tables e below F (T'.setTop (mkF m pc' L (v :: rest)))) : Gt p.tables e below F (T.setTop (mkF m pc L rest)) := by
  subst hp; obtain ⟨T', X', e', st⟩ := getS2 X hx hZ hown w via eT Ff (g := mkF m pc L rest) rfl (hb hby hd); exact (k T' X' e').go st
theorem own_putF (X : Stand p l e R s m args below meth c T locs cells slots) (hx : p.tables.exec = Jvm.exec) (hby : c.code = B) (hZ : Z.Warmed39 s.vm) {own R0 O n d host C : String} {index kk : Nat} {ty : FieldType} (hown : s.vm.findClass own = some m.cls) (w : (Jvm.Cond.fieldLink own index R0 n d).before a0 Z = true ∨ (Jvm.Cond.fieldLinkNest own index R0 n d host).before a0 Z = true) (via : Via Z R0 O n d) (eT : T.heap = h) {a : Addr} {v old : Value} (Ff : Fld Z h a O n d old) (E : Exa Z h a C) (La : (Jvm.Cond.lays C O n d).before a0 Z = true ∨ ((Jvm.Cond.laysFinal C O n d).before a0 Z = true ∧ own = O ∧ meth.name = "<init>")) (wi : (Jvm.Cond.instantiable C kk).before a0 Z = true) (hty : parseFieldDescriptor d = some ty) (hn : narrow ty v = v) (hf : fits ty v = true) (hd : decode B pc = .ok (.putfield index, 3)) (hp : pc + 3 = pc') (k : ∀ T' h', Stand p l e R s m args below meth c T' (locs ++ [⟨a, Jvm.RoadKit.slotOf Z O n d⟩]) cells slots → T'.heap = h' → Wr h h' a (Jvm.RoadKit.slotOf Z O n d) v → Gt p.tables e below F (T'.setTop (mkF m pc' L rest))) : Gt p.tables e below F (T.setTop (mkF m pc L (v :: .ref a :: rest))) := by
  subst hp; obtain ⟨T', h', X', e', W, st⟩ := putF X hx hZ hown w via eT Ff E La wi hty hn hf (g := mkF m pc L (v :: .ref a :: rest)) rfl rfl (hb hby hd); exact (k T' h' X' e' W).go st
theorem own_newO (X : Stand p l e R s m args below meth c T locs cells slots) (hx : p.tables.exec = Jvm.exec) (hby : c.code = B) (hZ : Z.Warmed39 s.vm) {own C : String} {index n : Nat} (hown : s.vm.findClass own = some m.cls) (w : (Jvm.Cond.classLink own index C).before a0 Z = true) (wi : (Jvm.Cond.instantiable C n).before a0 Z = true) (wz : (Jvm.Cond.initialized C).before a0 Z = true) (eT : T.heap = h) (hd : decode B pc = .ok (.new index, 3)) (hp : pc + 3 = pc') (hc : cells + 1 ≤ R.cells) (hl : slots + n ≤ R.slots) (k : ∀ T' h' a, Stand p l e R s m args below meth c T' locs (cells + 1) (slots + n) → T'.heap = h' → Ext h h' → h.size = a → Exa Z h' a C → (∀ {O nm d : String} {ty : FieldType}, Laid Z a0 C O nm d → parseFieldDescriptor d = some ty → Fld Z h' a O nm d (defaultValue ty)) → Gt p.tables e below F (T'.setTop (mkF m pc' L (.ref a :: rest)))) : Gt p.tables e below F (T.setTop (mkF m pc L rest)) := by
  subst hp; obtain ⟨T', h', X', e', E', A', D', -, st⟩ := newO X hx hZ hown w wi wz eT (g := mkF m pc L rest) rfl (hb hby hd) hc hl; exact (k T' h' _ X' e' E' rfl A' D').go st
theorem own_initO (X : Stand p l e R s m args below meth c T locs cells slots) (hx : p.tables.exec = Jvm.exec) (hby : c.code = B) (hZ : Z.Warmed39 s.vm) {own : String} {idx : Nat} (hown : s.vm.findClass own = some m.cls) (w1 : (Jvm.Cond.methodLink own idx Lib.objectInit).before a0 Z = true) (w2 : (Jvm.Cond.instanceMethod Lib.objectInit).before a0 Z = true) (w3 : (Jvm.Cond.code Lib.objectInit ⟨#[0xb1]⟩ 1 none).before a0 Z = true) (eT : T.heap = h) (hsize : L.size = c.maxLocals) {a : Addr} (hd : decode B pc = .ok (.invokespecial idx, 3)) (hp : pc + 3 = pc') (hf : 1 ≤ R.frames) {W : Nat} (hW : (rest.map fun v => v.category).sum ≤ W) (hl : W + 12 ≤ R.locals) (k : ∀ T', Stand p l e R s m args below meth c T' locs cells slots → T'.heap = h → Gt p.tables e below F (T'.setTop (mkF m pc' L rest))) : Gt p.tables e below F (T.setTop (mkF m pc L (.ref a :: rest))) := by
  subst hp; obtain ⟨T', X', e', st⟩ := initO X hx hZ hown w1 w2 w3 eT (g := mkF m pc L (.ref a :: rest)) rfl hsize rfl (hb hby hd) hf (W := W) (by show 2 * 0 + _ ≤ _; rw [Nat.mul_zero, Nat.zero_add]; exact hW) hl; exact (k T' X' e').go st
theorem own_special (X : Stand p l e R s m args below meth c T locs cells slots) (hx : p.tables.exec = Jvm.exec) (hby : c.code = B) (hZ : Z.Warmed39 s.vm) {own : String} {index : Nat} {y : MethodName} {bytes : ByteArray} {maxL : Nat} {ret : Option FieldType} {rm : Room} {as' : Array Value} {Q : Option Value → Heap → List Loc → Prop} (hy1 : y.name = "<init>") (hown : s.vm.findClass own = some m.cls) (w1 : (Jvm.Cond.methodLink own index y).before a0 Z = true) (w2 : (Jvm.Cond.instanceMethod y).before a0 Z = true) (hret : ret = none) (w3 : (Jvm.Cond.code y bytes maxL ret).before a0 Z = true) (w4 : (Jvm.Cond.initialized y.cls).before a0 Z = true) (hy : y.cls ≠ "java/lang/invoke/MethodHandle" ∧ y.cls ≠ "java/lang/invoke/VarHandle") (hM : MetFree l y (head1 [Jvm.Cond.code y bytes maxL ret] rm) (fun a U => a = as' ∧ Z.Warmed39 U.vm ∧ U.heap = h) (fun _ _ _ _ _ => True) (fun _ U o U' => ∃ v L, o = .returned v ∧ Q v U'.heap L ∧ FrameEnd U o U' L rm.cells rm.slots)) (eT : T.heap = h) (hsize : L.size = c.maxLocals) {a : Addr} {argsL : List Value} (has : as' = (.ref a :: argsL).toArray) (hlen : ∀ sig, parseMethodDescriptor y.desc = some sig → argsL.length = sig.parameters.length) {st : List Value} (hst : st = argsL.reverse ++ .ref a :: rest) (hd : decode B pc = .ok (.invokespecial index, 3)) (hp : pc + 3 = pc') (hf : rm.frames + 1 ≤ R.frames) {W : Nat} (hW : (rest.map fun v => v.category).sum ≤ W) (hl : W + (maxL + 11) + rm.locals ≤ R.locals) (hc : cells + rm.cells ≤ R.cells) (hs : slots + rm.slots ≤ R.slots) (k : ∀ T' h' L' v, Stand p l e R s m args below meth c T' (locs ++ L') (cells + rm.cells) (slots + rm.slots) → T'.heap = h' → Q v h' L' → Gt p.tables e below F (T'.setTop (mkF m pc' L (v.toList ++ rest)))) : Gt p.tables e below F (T.setTop (mkF m pc L st)) := by
  subst hp hret has hst
  obtain ⟨v, vm1, ⟨T', L1, k1, n1⟩, -, X', ⟨Lc, hQ, l1, l2, l3⟩, st⟩ := X.specialBack hx (y := y) hy1 hown (mvT hZ w1) (mvT hZ w2) (mvT hZ w3) hy (backOf (W := W) hM hZ w3 w4 hf hl) (g := mkF m pc L (argsL.reverse ++ .ref a :: rest)) rfl hsize (Steps.refl _) (a := a) (argsL := argsL) (rest := rest) hlen rfl (by show 2 * 0 + _ ≤ _; rw [Nat.mul_zero, Nat.zero_add]; exact hW) (hb hby hd) (fun _ _ => ⟨rfl, eT, hc, hs⟩)
  dsimp only [Pt.U, Pt.locs, Pt.cells, Pt.slots] at X' l1 l2 l3 st hQ
  subst l1 l2 l3
  exact (k T' _ Lc v X' rfl hQ).go fun t q => st.trans q
theorem own_virtual (X : Stand p l e R s m args below meth c T locs cells slots) (hx : p.tables.exec = Jvm.exec) (hby : c.code = B) (hZ : Z.Warmed39 s.vm) {own : String} {index : Nat} {y : MethodName} {bytes : ByteArray} {maxL : Nat} {ret : Option FieldType} {rm : Room} {as' : Array Value} {Q : Option Value → Heap → List Loc → Prop} {C : String} {y' : MethodName} (hown : s.vm.findClass own = some m.cls) (w1 : (Jvm.Cond.methodLink own index y').before a0 Z = true) (w2 : (Jvm.Cond.declares y').before a0 Z = true) (hnf : NotFace s y') (w5 : (Jvm.Cond.selects C y' y).before a0 Z = true) (w6 : (Jvm.Cond.instanceMethod y).before a0 Z = true) (w3 : (Jvm.Cond.code y bytes maxL ret).before a0 Z = true) (w4 : (Jvm.Cond.initialized y.cls).before a0 Z = true) (hy : y'.cls ≠ "java/lang/invoke/MethodHandle" ∧ y'.cls ≠ "java/lang/invoke/VarHandle") (hM : MetFree l y (head1 [Jvm.Cond.code y bytes maxL ret] rm) (fun a U => a = as' ∧ Z.Warmed39 U.vm ∧ U.heap = h) (fun _ _ _ _ _ => True) (fun _ U o U' => ∃ v L, o = .returned v ∧ Q v U'.heap L ∧ FrameEnd U o U' L rm.cells rm.slots)) (eT : T.heap = h) (hsize : L.size = c.maxLocals) {a : Addr} (E : Exa Z h a C) {argsL : List Value} (has : as' = (.ref a :: argsL).toArray) (hlen : ∀ sig, parseMethodDescriptor y'.desc = some sig → argsL.length = sig.parameters.length) {st : List Value} (hst : st = argsL.reverse ++ .ref a :: rest) (hd : decode B pc = .ok (.invokevirtual index, 3)) (hp : pc + 3 = pc') (hf : rm.frames + 1 ≤ R.frames) {W : Nat} (hW : (rest.map fun v => v.category).sum ≤ W) (hl : W + (maxL + 11) + rm.locals ≤ R.locals) (hc : cells + rm.cells ≤ R.cells) (hs : slots + rm.slots ≤ R.slots) (k : ∀ T' h' L' v, Stand p l e R s m args below meth c T' (locs ++ L') (cells + rm.cells) (slots + rm.slots) → T'.heap = h' → Q v h' L' → Gt p.tables e below F (T'.setTop (mkF m pc' L (v.toList ++ rest)))) : Gt p.tables e below F (T.setTop (mkF m pc L st)) := by
  subst hp has hst
  obtain ⟨cq, kq, qa, qb, qc⟩ := isOf hZ eT E
  obtain ⟨v, vm1, ⟨T', L1, k1, n1⟩, -, X', ⟨Lc, hQ, l1, l2, l3⟩, st⟩ := X.virtualBack hx (y := y') (z := y) hown (mvT hZ w1) (mvT hZ w2) hnf (mvT hZ w5) (mvT hZ w6) hy (backOf (W := W) hM hZ w3 w4 hf hl) qa qc (g := mkF m pc L (argsL.reverse ++ .ref a :: rest)) rfl hsize (Steps.refl _) (argsL := argsL) (rest := rest) hlen rfl (by show 2 * 0 + _ ≤ _; rw [Nat.mul_zero, Nat.zero_add]; exact hW) (hb hby hd) (fun _ _ => ⟨rfl, eT, hc, hs⟩)
  dsimp only [Pt.U, Pt.locs, Pt.cells, Pt.slots] at X' l1 l2 l3 st hQ
  subst l1 l2 l3
  exact (k T' _ Lc v X' rfl hQ).go fun t q => st.trans q
theorem own_static (X : Stand p l e R s m args below meth c T locs cells slots) (hx : p.tables.exec = Jvm.exec) (hby : c.code = B) (hZ : Z.Warmed39 s.vm) {own : String} {index : Nat} {y : MethodName} {bytes : ByteArray} {maxL : Nat} {ret : Option FieldType} {rm : Room} {as' : Array Value} {Q : Option Value → Heap → List Loc → Prop} (hown : s.vm.findClass own = some m.cls) (w1 : (Jvm.Cond.methodLink own index y).before a0 Z = true) (w2 : (Jvm.Cond.static y).before a0 Z = true) (w3 : (Jvm.Cond.code y bytes maxL ret).before a0 Z = true) (w4 : (Jvm.Cond.initialized y.cls).before a0 Z = true) (hy : y.cls ≠ "java/lang/invoke/MethodHandle" ∧ y.cls ≠ "java/lang/invoke/VarHandle") (hM : MetFree l y (head1 [Jvm.Cond.code y bytes maxL ret] rm) (fun a U => a = as' ∧ Z.Warmed39 U.vm ∧ U.heap = h) (fun _ _ _ _ _ => True) (fun _ U o U' => ∃ v L, o = .returned v ∧ Q v U'.heap L ∧ FrameEnd U o U' L rm.cells rm.slots)) (eT : T.heap = h) (hsize : L.size = c.maxLocals) {argsL : List Value} (has : as' = argsL.toArray) (hlen : ∀ sig, parseMethodDescriptor y.desc = some sig → argsL.length = sig.parameters.length) {st : List Value} (hst : st = argsL.reverse ++ rest) (hd : decode B pc = .ok (.invokestatic index, 3)) (hp : pc + 3 = pc') (hf : rm.frames + 1 ≤ R.frames) {W : Nat} (hW : (rest.map fun v => v.category).sum ≤ W) (hl : W + (maxL + 11) + rm.locals ≤ R.locals) (hc : cells + rm.cells ≤ R.cells) (hs : slots + rm.slots ≤ R.slots) (k : ∀ T' h' L' v, Stand p l e R s m args below meth c T' (locs ++ L') (cells + rm.cells) (slots + rm.slots) → T'.heap = h' → Q v h' L' → Gt p.tables e below F (T'.setTop (mkF m pc' L (v.toList ++ rest)))) : Gt p.tables e below F (T.setTop (mkF m pc L st)) := by
  subst hp has hst
  obtain ⟨v, vm1, ⟨T', L1, k1, n1⟩, -, X', ⟨Lc, hQ, l1, l2, l3⟩, st⟩ := Jvm.LawKit.callS X hx (y := y) hown (mvT hZ w1) (mvT hZ w2) (mvT hZ w4) (mvT hZ w3) hy (backOf (W := W) hM hZ w3 w4 hf hl) (g := mkF m pc L (argsL.reverse ++ rest)) rfl hsize (argsL := argsL) (rest := rest) hlen rfl (by show 2 * 0 + _ ≤ _; rw [Nat.mul_zero, Nat.zero_add]; exact hW) (hb hby hd) (fun _ _ => ⟨rfl, eT, hc, hs⟩)
  dsimp only [Pt.U, Pt.locs, Pt.cells, Pt.slots] at X' l1 l2 l3 st hQ
  subst l1 l2 l3
  exact (k T' _ Lc v X' rfl hQ).go fun t q => st _ q
theorem own_private (X : Stand p l e R s m args below meth c T locs cells slots) (hx : p.tables.exec = Jvm.exec) (hby : c.code = B) (hZ : Z.Warmed39 s.vm) {own : String} {index : Nat} {y : MethodName} {bytes : ByteArray} {maxL : Nat} {ret : Option FieldType} {rm : Room} {as' : Array Value} {Q : Option Value → Heap → List Loc → Prop} (hown : s.vm.findClass own = some m.cls) (w1 : (Jvm.Cond.methodLink own index y).before a0 Z = true) (w2 : (Jvm.Cond.instanceMethod y).before a0 Z = true) {ni : Nat} (w5 : (Jvm.Cond.instantiable y.cls ni).before a0 Z = true) (w6 : (Jvm.Cond.privateMethod y).before a0 Z = true) (w3 : (Jvm.Cond.code y bytes maxL ret).before a0 Z = true) (w4 : (Jvm.Cond.initialized y.cls).before a0 Z = true) (hy : y.cls ≠ "java/lang/invoke/MethodHandle" ∧ y.cls ≠ "java/lang/invoke/VarHandle") (hM : MetFree l y (head1 [Jvm.Cond.code y bytes maxL ret] rm) (fun a U => a = as' ∧ Z.Warmed39 U.vm ∧ U.heap = h) (fun _ _ _ _ _ => True) (fun _ U o U' => ∃ v L, o = .returned v ∧ Q v U'.heap L ∧ FrameEnd U o U' L rm.cells rm.slots)) (eT : T.heap = h) (hsize : L.size = c.maxLocals) {a : Addr} (E : Exa Z h a y.cls) {argsL : List Value} (has : as' = (.ref a :: argsL).toArray) (hlen : ∀ sig, parseMethodDescriptor y.desc = some sig → argsL.length = sig.parameters.length) {st : List Value} (hst : st = argsL.reverse ++ .ref a :: rest) (hd : decode B pc = .ok (.invokevirtual index, 3)) (hp : pc + 3 = pc') (hf : rm.frames + 1 ≤ R.frames) {W : Nat} (hW : (rest.map fun v => v.category).sum ≤ W) (hl : W + (maxL + 11) + rm.locals ≤ R.locals) (hc : cells + rm.cells ≤ R.cells) (hs : slots + rm.slots ≤ R.slots) (k : ∀ T' h' L' v, Stand p l e R s m args below meth c T' (locs ++ L') (cells + rm.cells) (slots + rm.slots) → T'.heap = h' → Q v h' L' → Gt p.tables e below F (T'.setTop (mkF m pc' L (v.toList ++ rest)))) : Gt p.tables e below F (T.setTop (mkF m pc L st)) := by
  subst hp has hst
  obtain ⟨cq, q1, q2⟩ := E.cell
  obtain ⟨cI, kI, i1, i2, -, i3, -⟩ := Cond.instantiable_spec (mv (s := s) (args := args) hZ w5)
  have hpr := Cond.privateMethod_at (mvP (s := s) hZ w6 (args := #[]))
  have hsel := Jvm.Stand.selects_self_of_private i1 i2 (Bool.or_eq_false_iff.mp i3).1 hpr (mvT (s := s) (args := args) hZ w2) hy
  obtain ⟨v, vm1, ⟨T', L1, k1, n1⟩, -, X', ⟨Lc, hQ, l1, l2, l3⟩, st⟩ := X.privateBack hx (y := y) hown (mvT hZ w1) (mvT hZ w2) hsel hpr (mvT hZ w3) hy (backOf (W := W) hM hZ w3 w4 hf hl) (g := mkF m pc L (argsL.reverse ++ .ref a :: rest)) rfl hsize (Steps.refl _) (a := a) (by rw [eT]; exact q1) q2 (argsL := argsL) (rest := rest) hlen rfl (by show 2 * 0 + _ ≤ _; rw [Nat.mul_zero, Nat.zero_add]; exact hW) (hb hby hd) (fun _ _ => ⟨rfl, eT, hc, hs⟩)
  dsimp only [Pt.U, Pt.locs, Pt.cells, Pt.slots] at X' l1 l2 l3 st hQ
  subst l1 l2 l3
  exact (k T' _ Lc v X' rfl hQ).go fun t q => st.trans q
theorem own_retV (X : Stand p l e R s m args below meth c T locs cells slots) (hx : p.tables.exec = Jvm.exec) (hby : c.code = B) (hlocks : meth.locks = false) {Q : Option Value → Heap → List Loc → Prop} {kc ks : Nat} (hret : meth.sig.returnType = none) (hd : decode B pc = .ok (.return_, 1)) (hc : cells ≤ kc) (hs : slots ≤ ks) (eT : T.heap = h) (hq : Q none h locs) : Gt p.tables e below (fun o U' => ∃ v Lc, o = .returned v ∧ Q v U'.heap Lc ∧ FrameEnd s o U' Lc kc ks) (T.setTop (mkF m pc L [])) := by
  subst eT
  obtain ⟨fs, hr, hrun, hended, hW, hsame⟩ := X.leave (v := none) (fun _ => rfl) hlocks
  exact ⟨_, _, X.returnOut hx hret (hb hby hd) hr, hrun, hended, _, _, rfl, hq, ⟨_, rfl⟩, hW, hsame.mono hc hs⟩
theorem own_retI (X : Stand p l e R s m args below meth c T locs cells slots) (hx : p.tables.exec = Jvm.exec) (hby : c.code = B) (hlocks : meth.locks = false) {Q : Option Value → Heap → List Loc → Prop} {kc ks : Nat} (hret : meth.sig.returnType = some .int) {z : Int32} (hd : decode B pc = .ok (.ireturn, 1)) (hc : cells ≤ kc) (hs : slots ≤ ks) (eT : T.heap = h) (hq : Q (some (.int z)) h locs) : Gt p.tables e below (fun o U' => ∃ v Lc, o = .returned v ∧ Q v U'.heap Lc ∧ FrameEnd s o U' Lc kc ks) (T.setTop (mkF m pc L (.int z :: rest))) := by
  subst eT
  obtain ⟨fs, hr, hrun, hended, hW, hsame⟩ := X.leave (v := (some (.int z))) (fun h => by rw [hret] at h; cases h) hlocks
  exact ⟨_, _, retOut X hx hret rfl (Or.inl ⟨rfl, Or.inl rfl, z, rfl⟩) (hb hby hd) hr, hrun, hended, _, _, rfl, hq, ⟨_, rfl⟩, hW, hsame.mono hc hs⟩
theorem own_retL (X : Stand p l e R s m args below meth c T locs cells slots) (hx : p.tables.exec = Jvm.exec) (hby : c.code = B) (hlocks : meth.locks = false) {Q : Option Value → Heap → List Loc → Prop} {kc ks : Nat} (hret : meth.sig.returnType = some .long) {z : Int64} (hd : decode B pc = .ok (.lreturn, 1)) (hc : cells ≤ kc) (hs : slots ≤ ks) (eT : T.heap = h) (hq : Q (some (.long z)) h locs) : Gt p.tables e below (fun o U' => ∃ v Lc, o = .returned v ∧ Q v U'.heap Lc ∧ FrameEnd s o U' Lc kc ks) (T.setTop (mkF m pc L (.long z :: rest))) := by
  subst eT
  obtain ⟨fs, hr, hrun, hended, hW, hsame⟩ := X.leave (v := (some (.long z))) (fun h => by rw [hret] at h; cases h) hlocks
  exact ⟨_, _, retOut X hx hret rfl (Or.inr (Or.inl ⟨rfl, rfl, z, rfl⟩)) (hb hby hd) hr, hrun, hended, _, _, rfl, hq, ⟨_, rfl⟩, hW, hsame.mono hc hs⟩
theorem own_retD (X : Stand p l e R s m args below meth c T locs cells slots) (hx : p.tables.exec = Jvm.exec) (hby : c.code = B) (hlocks : meth.locks = false) {Q : Option Value → Heap → List Loc → Prop} {kc ks : Nat} (hret : meth.sig.returnType = some .double) {z : UInt64} (hd : decode B pc = .ok (.dreturn, 1)) (hc : cells ≤ kc) (hs : slots ≤ ks) (eT : T.heap = h) (hq : Q (some (.double z)) h locs) : Gt p.tables e below (fun o U' => ∃ v Lc, o = .returned v ∧ Q v U'.heap Lc ∧ FrameEnd s o U' Lc kc ks) (T.setTop (mkF m pc L (.double z :: rest))) := by
  subst eT
  obtain ⟨fs, hr, hrun, hended, hW, hsame⟩ := X.leave (v := (some (.double z))) (fun h => by rw [hret] at h; cases h) hlocks
  exact ⟨_, _, retOut X hx hret rfl (Or.inr (Or.inr (Or.inl ⟨rfl, rfl, z, rfl⟩))) (hb hby hd) hr, hrun, hended, _, _, rfl, hq, ⟨_, rfl⟩, hW, hsame.mono hc hs⟩
theorem own_retZ (X : Stand p l e R s m args below meth c T locs cells slots) (hx : p.tables.exec = Jvm.exec) (hby : c.code = B) (hlocks : meth.locks = false) {Q : Option Value → Heap → List Loc → Prop} {kc ks : Nat} (hret : meth.sig.returnType = some .boolean) {z : Int32} (hz : z = 0 ∨ z = 1) (hd : decode B pc = .ok (.ireturn, 1)) (hc : cells ≤ kc) (hs : slots ≤ ks) (eT : T.heap = h) (hq : Q (some (.int z)) h locs) : Gt p.tables e below (fun o U' => ∃ v Lc, o = .returned v ∧ Q v U'.heap Lc ∧ FrameEnd s o U' Lc kc ks) (T.setTop (mkF m pc L (.int z :: rest))) := by
  subst eT
  obtain ⟨fs, hr, hrun, hended, hW, hsame⟩ := X.leave (v := (some (.int z))) (fun h => by rw [hret] at h; cases h) hlocks
  exact ⟨_, _, retOut X hx hret (by rcases hz with rfl | rfl <;> rfl) (Or.inl ⟨rfl, Or.inr (Or.inl rfl), z, rfl⟩) (hb hby hd) hr, hrun, hended, _, _, rfl, hq, ⟨_, rfl⟩, hW, hsame.mono hc hs⟩
theorem own_retA (X : Stand p l e R s m args below meth c T locs cells slots) (hx : p.tables.exec = Jvm.exec) (hby : c.code = B) (hlocks : meth.locks = false) {Q : Option Value → Heap → List Loc → Prop} {kc ks : Nat} {t : FieldType} (hret : meth.sig.returnType = some t) (ht : t.isReference = true) {z : Value} (hz : z.isRef = true) (hd : decode B pc = .ok (.areturn, 1)) (hc : cells ≤ kc) (hs : slots ≤ ks) (eT : T.heap = h) (hq : Q (some z) h locs) : Gt p.tables e below (fun o U' => ∃ v Lc, o = .returned v ∧ Q v U'.heap Lc ∧ FrameEnd s o U' Lc kc ks) (T.setTop (mkF m pc L (z :: rest))) := by
  subst eT
  obtain ⟨fs, hr, hrun, hended, hW, hsame⟩ := X.leave (v := (some z)) (fun h => by rw [hret] at h; cases h) hlocks
  exact ⟨_, _, retOut X hx hret (by rcases ref_cases hz with rfl | ⟨a, rfl⟩ <;> cases t <;> simp_all [narrow, FieldType.isReference]) (Or.inr (Or.inr (Or.inr (Or.inr ⟨rfl, ht, hz⟩)))) (hb hby hd) hr, hrun, hended, _, _, rfl, hq, ⟨_, rfl⟩, hW, hsame.mono hc hs⟩
end OwnG
section OwnA
variable {p : Program} {l : Launch} {e : Env} {R : Room} {s : State} {m : MethodId} {args : Array Value} {below : List Frame} {meth : Method} {c : Code} {T : State} {locs : List Loc} {cells slots : Nat} {Z : State} {a0 : Array Value} {h h' : Heap} {B : ByteArray} {pc pc' : Nat} {L L' : Array Slot} {rest : List Value} {F : Outcome → State → Prop} {a b : Addr} {ty : FieldType} {vs : List Value} {P : ClassId → Prop} {sl : Nat} {v : Value} {ws : List Addr}
def tr (_ : ClassId) : Prop := True
/-- an array at a of kind ty whose components are the list vs, of a class with P -/
def Ary (P : ClassId → Prop) (Z : State) (h : Heap) (a : Addr) (ty : FieldType) (vs : List Value) : Prop := ∃ c : Cell, Arr Z h a c ty ∧ P c.cls ∧ c.slots.toList = vs ∧ vs.length < 2 ^ 31
theorem Ary.lt (V : Ary P Z h a ty vs) : a < h.size := by obtain ⟨c, A, -⟩ := V; exact A.lt
theorem Ary.ext (V : Ary P Z h a ty vs) (E : Ext h h') : Ary P Z h' a ty vs := by obtain ⟨c, A, r⟩ := V; exact ⟨c, A.ext E, r⟩
theorem Ary.other (V : Ary P Z h b ty vs) (W : Wr h h' a sl v) (q : b ≠ a) : Ary P Z h' b ty vs := by obtain ⟨c, A, r⟩ := V; exact ⟨c, A.other W q, r⟩
theorem Ary.keep (V : Ary P Z h a ty vs) (K : Keep h h' ws) (q : a ∉ ws) : Ary P Z h' a ty vs := by obtain ⟨c, A, r⟩ := V; exact ⟨c, ⟨K.2.1 a c A.1 q, A.2⟩, r⟩
theorem Ary.set (V : Ary P Z h a ty vs) (W : Wr h h' a sl v) : Ary P Z h' a ty (vs.set sl v) := by
  obtain ⟨c, A, q, r, t⟩ := V
  refine ⟨_, A.same W, q, ?_, by rw [List.length_set]; exact t⟩
  show (c.slots.setIfInBounds sl v).toList = _
  rw [Array.toList_setIfInBounds, r]
theorem Ary.size {cl : Cell} (r : cl.slots.toList = vs) : cl.slots.size = vs.length := by rw [← r]; simp
theorem Ary.inb {cl : Cell} {i : Int32} (r : cl.slots.toList = vs) (hi : ¬ i < 0) (hl : i.toNatClampNeg < vs.length) : ¬ (i < 0 ∨ cl.slots.size ≤ i.toNatClampNeg) := by
  rw [Ary.size r]; intro q; rcases q with q | q
  · exact hi q
  · omega
theorem Ary.at {cl : Cell} {i : Nat} (r : cl.slots.toList = vs) (hg : vs[i]? = some v) : cl.slots[i]? = some v := by
  rw [← hg, ← r]; simp
theorem own_alen (X : Stand p l e R s m args below meth c T locs cells slots) (hx : p.tables.exec = Jvm.exec) (hby : c.code = B) (hZ : Z.Warmed39 s.vm) (eT : T.heap = h) (V : Ary P Z h a ty vs) {z : Int32} (hz : vs.length.toInt32 = z) (hd : decode B pc = .ok (.arraylength, 1)) (hp : pc + 1 = pc') (k : Gt p.tables e below F (T.setTop (mkF m pc' L (.int z :: rest)))) : Gt p.tables e below F (T.setTop (mkF m pc L (.ref a :: rest))) := by
  subst hp hz
  obtain ⟨cl, A, -, r, t⟩ := V
  refine k.go fun t q => X.arraylength hx (by rw [eT]; exact A.1) (State.isArrayOf_alike hZ.alike A.2.1) (g := mkF m pc L (.ref a :: rest)) rfl rfl (hb hby hd) _ ?_
  rw [Ary.size r]; exact q
theorem own_iaload (X : Stand p l e R s m args below meth c T locs cells slots) (hx : p.tables.exec = Jvm.exec) (hby : c.code = B) (hZ : Z.Warmed39 s.vm) (eT : T.heap = h) (V : Ary P Z h a .int vs) {i : Int32} (hi : ¬ i < 0) (hg : vs[i.toNatClampNeg]? = some v) (hd : decode B pc = .ok (.iaload, 1)) (hp : pc + 1 = pc') (k : Gt p.tables e below F (T.setTop (mkF m pc' L (v :: rest)))) : Gt p.tables e below F (T.setTop (mkF m pc L (.int i :: .ref a :: rest))) := by
  subst hp
  obtain ⟨cl, A, -, r, t⟩ := V
  exact k.go fun t q => X.iaload hx (by rw [eT]; exact A.1) (State.isArrayOf_alike hZ.alike A.2.1) A.2.2 (Ary.inb r hi (List.getElem?_eq_some_iff.mp hg).1) (Ary.at r hg) (g := mkF m pc L (.int i :: .ref a :: rest)) rfl rfl (hb hby hd) _ q
theorem own_laload (X : Stand p l e R s m args below meth c T locs cells slots) (hx : p.tables.exec = Jvm.exec) (hby : c.code = B) (hZ : Z.Warmed39 s.vm) (eT : T.heap = h) (V : Ary P Z h a .long vs) {i : Int32} (hi : ¬ i < 0) (hg : vs[i.toNatClampNeg]? = some v) (hd : decode B pc = .ok (.laload, 1)) (hp : pc + 1 = pc') (k : Gt p.tables e below F (T.setTop (mkF m pc' L (v :: rest)))) : Gt p.tables e below F (T.setTop (mkF m pc L (.int i :: .ref a :: rest))) := by
  subst hp
  obtain ⟨cl, A, -, r, t⟩ := V
  exact k.go fun t q => X.laload hx (by rw [eT]; exact A.1) (State.isArrayOf_alike hZ.alike A.2.1) A.2.2 (Ary.inb r hi (List.getElem?_eq_some_iff.mp hg).1) (Ary.at r hg) (g := mkF m pc L (.int i :: .ref a :: rest)) rfl rfl (hb hby hd) _ q
theorem own_daload (X : Stand p l e R s m args below meth c T locs cells slots) (hx : p.tables.exec = Jvm.exec) (hby : c.code = B) (hZ : Z.Warmed39 s.vm) (eT : T.heap = h) (V : Ary P Z h a .double vs) {i : Int32} (hi : ¬ i < 0) (hg : vs[i.toNatClampNeg]? = some v) (hd : decode B pc = .ok (.daload, 1)) (hp : pc + 1 = pc') (k : Gt p.tables e below F (T.setTop (mkF m pc' L (v :: rest)))) : Gt p.tables e below F (T.setTop (mkF m pc L (.int i :: .ref a :: rest))) := by
  subst hp
  obtain ⟨cl, A, -, r, t⟩ := V
  exact k.go fun t q => X.daload hx (by rw [eT]; exact A.1) (State.isArrayOf_alike hZ.alike A.2.1) A.2.2 (Ary.inb r hi (List.getElem?_eq_some_iff.mp hg).1) (Ary.at r hg) (g := mkF m pc L (.int i :: .ref a :: rest)) rfl rfl (hb hby hd) _ q
theorem own_aaload (X : Stand p l e R s m args below meth c T locs cells slots) (hx : p.tables.exec = Jvm.exec) (hby : c.code = B) (hZ : Z.Warmed39 s.vm) (eT : T.heap = h) (V : Ary P Z h a ty vs) (hty : ty.isReference = true) {i : Int32} (hi : ¬ i < 0) (hg : vs[i.toNatClampNeg]? = some v) (hd : decode B pc = .ok (.aaload, 1)) (hp : pc + 1 = pc') (k : Gt p.tables e below F (T.setTop (mkF m pc' L (v :: rest)))) : Gt p.tables e below F (T.setTop (mkF m pc L (.int i :: .ref a :: rest))) := by
  subst hp
  obtain ⟨cl, A, -, r, t⟩ := V
  exact k.go fun t q => X.aaload hx (by rw [eT]; exact A.1) (State.isArrayOf_alike hZ.alike A.2.1) hty A.2.2 (Ary.inb r hi (List.getElem?_eq_some_iff.mp hg).1) (Ary.at r hg) (g := mkF m pc L (.int i :: .ref a :: rest)) rfl rfl (hb hby hd) _ q
theorem own_iastore (X : Stand p l e R s m args below meth c T locs cells slots) (hx : p.tables.exec = Jvm.exec) (hby : c.code = B) (hZ : Z.Warmed39 s.vm) (eT : T.heap = h) (V : Ary P Z h a .int vs) {i x : Int32} {n : Nat} (hi : ¬ i < 0) (hn : i.toNatClampNeg = n) (hl : n < vs.length) (hd : decode B pc = .ok (.iastore, 1)) (hp : pc + 1 = pc') (k : ∀ T' h', Stand p l e R s m args below meth c T' (locs ++ [⟨a, n⟩]) cells slots → T'.heap = h' → Wr h h' a n (.int x) → Gt p.tables e below F (T'.setTop (mkF m pc' L rest))) : Gt p.tables e below F (T.setTop (mkF m pc L (.int x :: .int i :: .ref a :: rest))) := by
  subst hp hn
  obtain ⟨cl, A, -, r, t⟩ := V
  obtain ⟨T', h', X', e', W, st⟩ := stI X hx hZ eT A (Ary.inb r hi hl) (g := mkF m pc L (.int x :: .int i :: .ref a :: rest)) rfl rfl (hb hby hd)
  exact (k T' h' X' e' W).go st
theorem own_lastore (X : Stand p l e R s m args below meth c T locs cells slots) (hx : p.tables.exec = Jvm.exec) (hby : c.code = B) (hZ : Z.Warmed39 s.vm) (eT : T.heap = h) (V : Ary P Z h a .long vs) {i : Int32} {x : Int64} {n : Nat} (hi : ¬ i < 0) (hn : i.toNatClampNeg = n) (hl : n < vs.length) (hd : decode B pc = .ok (.lastore, 1)) (hp : pc + 1 = pc') (k : ∀ T' h', Stand p l e R s m args below meth c T' (locs ++ [⟨a, n⟩]) cells slots → T'.heap = h' → Wr h h' a n (.long x) → Gt p.tables e below F (T'.setTop (mkF m pc' L rest))) : Gt p.tables e below F (T.setTop (mkF m pc L (.long x :: .int i :: .ref a :: rest))) := by
  subst hp hn
  obtain ⟨cl, A, -, r, t⟩ := V
  obtain ⟨T', h', X', e', W, st⟩ := stJ X hx hZ eT A (Ary.inb r hi hl) (g := mkF m pc L (.long x :: .int i :: .ref a :: rest)) rfl rfl (hb hby hd)
  exact (k T' h' X' e' W).go st
theorem own_dastore (X : Stand p l e R s m args below meth c T locs cells slots) (hx : p.tables.exec = Jvm.exec) (hby : c.code = B) (hZ : Z.Warmed39 s.vm) (eT : T.heap = h) (V : Ary P Z h a .double vs) {i : Int32} {x : UInt64} {n : Nat} (hi : ¬ i < 0) (hn : i.toNatClampNeg = n) (hl : n < vs.length) (hd : decode B pc = .ok (.dastore, 1)) (hp : pc + 1 = pc') (k : ∀ T' h', Stand p l e R s m args below meth c T' (locs ++ [⟨a, n⟩]) cells slots → T'.heap = h' → Wr h h' a n (.double x) → Gt p.tables e below F (T'.setTop (mkF m pc' L rest))) : Gt p.tables e below F (T.setTop (mkF m pc L (.double x :: .int i :: .ref a :: rest))) := by
  subst hp hn
  obtain ⟨cl, A, -, r, t⟩ := V
  obtain ⟨T', h', X', e', W, st⟩ := stD X hx hZ eT A (Ary.inb r hi hl) (g := mkF m pc L (.double x :: .int i :: .ref a :: rest)) rfl rfl (hb hby hd)
  exact (k T' h' X' e' W).go st
/-- what lies in it: an array class over C -/
def ovA (Z : State) (ty : FieldType) (C : String) (k : ClassId) : Prop := OvrA Z k ty C
def ovO (Z : State) (C : String) (k : ClassId) : Prop := Ovr Z k C
theorem own_aastoreA (X : Stand p l e R s m args below meth c T locs cells slots) (hx : p.tables.exec = Jvm.exec) (hby : c.code = B) (hZ : Z.Warmed39 s.vm) (eT : T.heap = h) {C : String} (V : Ary (ovA Z ty C) Z h a (.array ty) vs) {i : Int32} {x : Addr} {n : Nat} (E : Exa Z h x C) (hi : ¬ i < 0) (hn : i.toNatClampNeg = n) (hl : n < vs.length) (hd : decode B pc = .ok (.aastore, 1)) (hp : pc + 1 = pc') (k : ∀ T' h', Stand p l e R s m args below meth c T' (locs ++ [⟨a, n⟩]) cells slots → T'.heap = h' → Wr h h' a n (.ref x) → Gt p.tables e below F (T'.setTop (mkF m pc' L rest))) : Gt p.tables e below F (T.setTop (mkF m pc L (.ref x :: .int i :: .ref a :: rest))) := by
  subst hp hn
  obtain ⟨cl, A, O, r, t⟩ := V
  obtain ⟨T', h', X', e', W, st⟩ := stR X hx hZ eT A (Ary.inb r hi hl) rfl (Sto.ofVA A rfl O (Ins.self E)) (g := mkF m pc L (.ref x :: .int i :: .ref a :: rest)) rfl rfl (hb hby hd)
  exact (k T' h' X' e' W).go st
theorem own_aastoreO (X : Stand p l e R s m args below meth c T locs cells slots) (hx : p.tables.exec = Jvm.exec) (hby : c.code = B) (hZ : Z.Warmed39 s.vm) (eT : T.heap = h) {C : String} (V : Ary (ovO Z C) Z h a (.object C) vs) {i : Int32} {x : Addr} {n : Nat} (E : Exa Z h x C) (hi : ¬ i < 0) (hn : i.toNatClampNeg = n) (hl : n < vs.length) (hd : decode B pc = .ok (.aastore, 1)) (hp : pc + 1 = pc') (k : ∀ T' h', Stand p l e R s m args below meth c T' (locs ++ [⟨a, n⟩]) cells slots → T'.heap = h' → Wr h h' a n (.ref x) → Gt p.tables e below F (T'.setTop (mkF m pc' L rest))) : Gt p.tables e below F (T.setTop (mkF m pc L (.ref x :: .int i :: .ref a :: rest))) := by
  subst hp hn
  obtain ⟨cl, A, O, r, t⟩ := V
  obtain ⟨T', h', X', e', W, st⟩ := stR X hx hZ eT A (Ary.inb r hi hl) rfl (Sto.of A O (Ins.self E)) (g := mkF m pc L (.ref x :: .int i :: .ref a :: rest)) rfl rfl (hb hby hd)
  exact (k T' h' X' e' W).go st
theorem own_newP (X : Stand p l e R s m args below meth c T locs cells slots) (hx : p.tables.exec = Jvm.exec) (hby : c.code = B) (hZ : Z.Warmed39 s.vm) {aty : ArrayType} (w : (Jvm.Cond.arrayClass (newarray.typeOf aty)).before a0 Z = true) (eT : T.heap = h) (hd : decode B pc = .ok (.newarray aty, 2)) (hp : pc + 2 = pc') {n : Int32} (hn : ¬ n < 0) {N : Nat} (hN : n.toNatClampNeg = N) {cap : Nat} (hcap : N ≤ cap) (hbb : cap * 8 ≤ 536870912) (hc : cells + 1 ≤ R.cells) (hl : slots + cap ≤ R.slots) {ad : String} (had : "[" ++ (newarray.typeOf aty).toString = ad)
    (k : ∀ T' h' a, Stand p l e R s m args below meth c T' locs (cells + 1) (slots + cap) → T'.heap = h' → Ext h h' → h.size = a → Exa Z h' a ad → Ary tr Z h' a (newarray.typeOf aty) (List.replicate N (defaultValue (newarray.typeOf aty))) → Gt p.tables e below F (T'.setTop (mkF m pc' L (.ref a :: rest)))) : Gt p.tables e below F (T.setTop (mkF m pc L (.int n :: rest))) := by
  subst hp hN
  obtain ⟨T', h', cA, X', e', E', A', Ex, st⟩ := newPE X hx hZ w eT (g := mkF m pc L (.int n :: rest)) rfl (hb hby hd) rfl hn hcap hbb hc hl had
  exact (k T' h' _ X' e' E' rfl Ex ⟨_, A', trivial, by simp [newA], by rw [List.length_replicate]; exact (back32 hn).2⟩).go st
theorem own_newRA (X : Stand p l e R s m args below meth c T locs cells slots) (hx : p.tables.exec = Jvm.exec) (hby : c.code = B) (hZ : Z.Warmed39 s.vm) {own C : String} {index : Nat} (hown : s.vm.findClass own = some m.cls) (hC : (FieldType.array ty).toString = C) (w1 : (Jvm.Cond.classLink own index C).before a0 Z = true) (w2 : (Jvm.Cond.arrayOver (.array ty)).before a0 Z = true) (eT : T.heap = h) (hd : decode B pc = .ok (.anewarray index, 3)) (hp : pc + 3 = pc') {n : Int32} (hn : ¬ n < 0) {N : Nat} (hN : n.toNatClampNeg = N) {cap : Nat} (hcap : N ≤ cap) (hbb : cap * 8 ≤ 536870912) (hc : cells + 1 ≤ R.cells) (hl : slots + cap ≤ R.slots) {ad : String} (had : "[" ++ C = ad)
    (k : ∀ T' h' a, Stand p l e R s m args below meth c T' locs (cells + 1) (slots + cap) → T'.heap = h' → Ext h h' → h.size = a → Exa Z h' a ad → Ary (ovA Z ty C) Z h' a (.array ty) (List.replicate N .null) → Gt p.tables e below F (T'.setTop (mkF m pc' L (.ref a :: rest)))) : Gt p.tables e below F (T.setTop (mkF m pc L (.int n :: rest))) := by
  subst hp hN
  obtain ⟨T', h', cA, X', e', E', A', Ex, O, st⟩ := newRA X hx hZ hown hC w1 w2 eT (g := mkF m pc L (.int n :: rest)) rfl (hb hby hd) rfl hn hcap hbb hc hl had
  exact (k T' h' _ X' e' E' rfl Ex ⟨_, A', O, by simp [newA, defaultValue], by rw [List.length_replicate]; exact (back32 hn).2⟩).go st
theorem own_newRO (X : Stand p l e R s m args below meth c T locs cells slots) (hx : p.tables.exec = Jvm.exec) (hby : c.code = B) (hZ : Z.Warmed39 s.vm) {own C : String} {index : Nat} (hown : s.vm.findClass own = some m.cls) (w1 : (Jvm.Cond.classLink own index C).before a0 Z = true) (w2 : (Jvm.Cond.arrayOver (.object C)).before a0 Z = true) (eT : T.heap = h) (hd : decode B pc = .ok (.anewarray index, 3)) (hp : pc + 3 = pc') {n : Int32} (hn : ¬ n < 0) {N : Nat} (hN : n.toNatClampNeg = N) {cap : Nat} (hcap : N ≤ cap) (hbb : cap * 8 ≤ 536870912) (hc : cells + 1 ≤ R.cells) (hl : slots + cap ≤ R.slots) {ad : String} (had : "[" ++ (FieldType.object C).toString = ad)
    (k : ∀ T' h' a, Stand p l e R s m args below meth c T' locs (cells + 1) (slots + cap) → T'.heap = h' → Ext h h' → h.size = a → Exa Z h' a ad → Ary (ovO Z C) Z h' a (.object C) (List.replicate N .null) → Gt p.tables e below F (T'.setTop (mkF m pc' L (.ref a :: rest)))) : Gt p.tables e below F (T.setTop (mkF m pc L (.int n :: rest))) := by
  subst hp hN
  obtain ⟨T', h', cA, X', e', E', A', Ex, O, st⟩ := newRE X hx hZ hown w1 w2 eT (g := mkF m pc L (.int n :: rest)) rfl (hb hby hd) rfl hn hcap hbb hc hl had
  exact (k T' h' _ X' e' E' rfl Ex ⟨_, A', O, by simp [newA, defaultValue], by rw [List.length_replicate]; exact (back32 hn).2⟩).go st
/-- new T[3][3] of a primitive kind -/
theorem own_grid3 (X : Stand p l e R s m args below meth c T locs cells slots) (hx : p.tables.exec = Jvm.exec) (hby : c.code = B) (hZ : Z.Warmed39 s.vm) {own C ad : String} {index : Nat} (hown : s.vm.findClass own = some m.cls) (hC : (FieldType.array ty).toString = C) (had : "[" ++ C = ad)
    (w1 : (Jvm.Cond.classLink own index ad).before a0 Z = true) (w2 : (Jvm.Cond.arrayOver (.array ty)).before a0 Z = true) (w3 : (Jvm.Cond.arrayClass ty).before a0 Z = true) (eT : T.heap = h) (hd : decode B pc = .ok (.multianewarray index 2, 4)) (hp : pc + 4 = pc') (hdf : fits ty (defaultValue ty) = true) (hdd : (defaultValue ty).isDefault = true) (hc : cells + 4 ≤ R.cells) (hl : slots + 12 ≤ R.slots)
    (k : ∀ T' h' a b1 b2 b3, Stand p l e R s m args below meth c T' locs (cells + 4) (slots + 12) → T'.heap = h' → Ext h h' → h.size = a → a < b1 → b1 < b2 → b2 < b3 → Exa Z h' a ad → Ary (ovA Z ty C) Z h' a (.array ty) [.ref b1, .ref b2, .ref b3] → Exa Z h' b1 C → Exa Z h' b2 C → Exa Z h' b3 C → Ary tr Z h' b1 ty [defaultValue ty, defaultValue ty, defaultValue ty] → Ary tr Z h' b2 ty [defaultValue ty, defaultValue ty, defaultValue ty] → Ary tr Z h' b3 ty [defaultValue ty, defaultValue ty, defaultValue ty] → Gt p.tables e below F (T'.setTop (mkF m pc' L (.ref a :: rest)))) : Gt p.tables e below F (T.setTop (mkF m pc L (.int 3 :: .int 3 :: rest))) := by
  subst hp
  obtain ⟨T', h', cA, comp, X', e', E', ⟨cl, A1, A2, A3, A4, A5, A6⟩, O, Ex, I, st⟩ := gridM X hx hZ hown hC had w1 w2 w3 eT (g := mkF m pc L (.int 3 :: .int 3 :: rest)) rfl (hb hby hd) (n := 3) (k := 3) rfl (by decide) (by decide) (N := 3) (by decide) (xs := [h.size + 1, h.size + 2, h.size + 3]) rfl (cap := 3) (by decide) (by decide) (by decide) hdf hdd hc hl
  have i1 := I 0 _ rfl; have i2 := I 1 _ rfl; have i3 := I 2 _ rfl
  have f : ∀ x, Arr Z h' x (newA comp ty 3) ty → Ary tr Z h' x ty [defaultValue ty, defaultValue ty, defaultValue ty] := fun x q => ⟨_, q, trivial, by simp [newA], by show 3 < 2 ^ 31; decide⟩
  refine (k T' h' _ _ _ _ X' e' E' rfl (Nat.lt_succ_self _) (Nat.lt_succ_self _) (Nat.lt_succ_self _) Ex ⟨cl, A1, A2 ▸ O, ?_, by show 3 < 2 ^ 31; decide⟩ i1.2 i2.2 i3.2 (f _ i1.1) (f _ i2.1) (f _ i3.1)).go st
  have sz : cl.slots.size = 3 := A3
  refine List.ext_getElem? fun i => ?_
  by_cases hi : i < 3
  · have q := A5 i (by omega)
    rw [Array.getElem?_toList, q]
    match i, hi with
    | 0, _ => rfl
    | 1, _ => rfl
    | 2, _ => rfl
  · rw [List.getElem?_eq_none (by simp; omega), List.getElem?_eq_none (by simp; omega)]
end OwnA
section OwnL
theorem own_lget {α : Type} {L : List α} {d : α} {i : Nat} {f : α → Value} (h : i < L.length) : (L.map f)[i]? = some (f (L.getD i d)) := by
  rw [List.getElem?_map, List.getD_eq_getElem?_getD, List.getElem?_eq_getElem h]; rfl
theorem own_rg0 {i : Int32} {m : Int} (h : 0 ≤ i.toInt ∧ i.toInt < m) : ¬ i < 0 := by
  rw [Int32.lt_iff_toInt_lt]; have : (0 : Int32).toInt = 0 := by decide
  omega
theorem own_rgl {α : Type} {L : List α} {i : Int32} {m : Int} {n : Nat} (h : 0 ≤ i.toInt ∧ i.toInt < m) (hl : L.length = n) (e : m.toNat = n := by rfl) : i.toNatClampNeg < L.length := by
  show i.toInt.toNat < _; omega
end OwnL
section OwnC
variable {x y : UInt64} {i j : Int64} {a b : Int32}
abbrev dlt (x y : UInt64) : Prop := FP.dcmp x y = some .lt
abbrev dgt (x y : UInt64) : Prop := FP.dcmp x y = some .gt
abbrev deq (x y : UInt64) : Prop := FP.dcmp x y = some .eq
abbrev dle (x y : UInt64) : Prop := FP.dcmp x y = some .lt ∨ FP.dcmp x y = some .eq
abbrev dge (x y : UInt64) : Prop := FP.dcmp x y = some .gt ∨ FP.dcmp x y = some .eq
theorem own_dl_lt_p (h : dge x y) : ifCond.holds .lt (cmpValue (FP.dcmp x y) .l) = false := by
  unfold dge at h; revert h; generalize FP.dcmp x y = o; rcases o with _ | (_ | _ | _) <;> decide
theorem own_dl_lt_n (h : ¬ dge x y) : ifCond.holds .lt (cmpValue (FP.dcmp x y) .l) = true := by
  unfold dge at h; revert h; generalize FP.dcmp x y = o; rcases o with _ | (_ | _ | _) <;> decide
theorem own_dl_ge_p (h : dge x y) : ifCond.holds .ge (cmpValue (FP.dcmp x y) .l) = true := by
  unfold dge at h; revert h; generalize FP.dcmp x y = o; rcases o with _ | (_ | _ | _) <;> decide
theorem own_dl_ge_n (h : ¬ dge x y) : ifCond.holds .ge (cmpValue (FP.dcmp x y) .l) = false := by
  unfold dge at h; revert h; generalize FP.dcmp x y = o; rcases o with _ | (_ | _ | _) <;> decide
theorem own_dl_gt_p (h : dgt x y) : ifCond.holds .gt (cmpValue (FP.dcmp x y) .l) = true := by
  unfold dgt at h; revert h; generalize FP.dcmp x y = o; rcases o with _ | (_ | _ | _) <;> decide
theorem own_dl_gt_n (h : ¬ dgt x y) : ifCond.holds .gt (cmpValue (FP.dcmp x y) .l) = false := by
  unfold dgt at h; revert h; generalize FP.dcmp x y = o; rcases o with _ | (_ | _ | _) <;> decide
theorem own_dl_le_p (h : dgt x y) : ifCond.holds .le (cmpValue (FP.dcmp x y) .l) = false := by
  unfold dgt at h; revert h; generalize FP.dcmp x y = o; rcases o with _ | (_ | _ | _) <;> decide
theorem own_dl_le_n (h : ¬ dgt x y) : ifCond.holds .le (cmpValue (FP.dcmp x y) .l) = true := by
  unfold dgt at h; revert h; generalize FP.dcmp x y = o; rcases o with _ | (_ | _ | _) <;> decide
theorem own_dl_eq_p (h : deq x y) : ifCond.holds .eq (cmpValue (FP.dcmp x y) .l) = true := by
  unfold deq at h; revert h; generalize FP.dcmp x y = o; rcases o with _ | (_ | _ | _) <;> decide
theorem own_dl_eq_n (h : ¬ deq x y) : ifCond.holds .eq (cmpValue (FP.dcmp x y) .l) = false := by
  unfold deq at h; revert h; generalize FP.dcmp x y = o; rcases o with _ | (_ | _ | _) <;> decide
theorem own_dl_ne_p (h : deq x y) : ifCond.holds .ne (cmpValue (FP.dcmp x y) .l) = false := by
  unfold deq at h; revert h; generalize FP.dcmp x y = o; rcases o with _ | (_ | _ | _) <;> decide
theorem own_dl_ne_n (h : ¬ deq x y) : ifCond.holds .ne (cmpValue (FP.dcmp x y) .l) = true := by
  unfold deq at h; revert h; generalize FP.dcmp x y = o; rcases o with _ | (_ | _ | _) <;> decide
theorem own_dg_lt_p (h : dlt x y) : ifCond.holds .lt (cmpValue (FP.dcmp x y) .g) = true := by
  unfold dlt at h; revert h; generalize FP.dcmp x y = o; rcases o with _ | (_ | _ | _) <;> decide
theorem own_dg_lt_n (h : ¬ dlt x y) : ifCond.holds .lt (cmpValue (FP.dcmp x y) .g) = false := by
  unfold dlt at h; revert h; generalize FP.dcmp x y = o; rcases o with _ | (_ | _ | _) <;> decide
theorem own_dg_ge_p (h : dlt x y) : ifCond.holds .ge (cmpValue (FP.dcmp x y) .g) = false := by
  unfold dlt at h; revert h; generalize FP.dcmp x y = o; rcases o with _ | (_ | _ | _) <;> decide
theorem own_dg_ge_n (h : ¬ dlt x y) : ifCond.holds .ge (cmpValue (FP.dcmp x y) .g) = true := by
  unfold dlt at h; revert h; generalize FP.dcmp x y = o; rcases o with _ | (_ | _ | _) <;> decide
theorem own_dg_gt_p (h : dle x y) : ifCond.holds .gt (cmpValue (FP.dcmp x y) .g) = false := by
  unfold dle at h; revert h; generalize FP.dcmp x y = o; rcases o with _ | (_ | _ | _) <;> decide
theorem own_dg_gt_n (h : ¬ dle x y) : ifCond.holds .gt (cmpValue (FP.dcmp x y) .g) = true := by
  unfold dle at h; revert h; generalize FP.dcmp x y = o; rcases o with _ | (_ | _ | _) <;> decide
theorem own_dg_le_p (h : dle x y) : ifCond.holds .le (cmpValue (FP.dcmp x y) .g) = true := by
  unfold dle at h; revert h; generalize FP.dcmp x y = o; rcases o with _ | (_ | _ | _) <;> decide
theorem own_dg_le_n (h : ¬ dle x y) : ifCond.holds .le (cmpValue (FP.dcmp x y) .g) = false := by
  unfold dle at h; revert h; generalize FP.dcmp x y = o; rcases o with _ | (_ | _ | _) <;> decide
theorem own_dg_eq_p (h : deq x y) : ifCond.holds .eq (cmpValue (FP.dcmp x y) .g) = true := by
  unfold deq at h; revert h; generalize FP.dcmp x y = o; rcases o with _ | (_ | _ | _) <;> decide
theorem own_dg_eq_n (h : ¬ deq x y) : ifCond.holds .eq (cmpValue (FP.dcmp x y) .g) = false := by
  unfold deq at h; revert h; generalize FP.dcmp x y = o; rcases o with _ | (_ | _ | _) <;> decide
theorem own_dg_ne_p (h : deq x y) : ifCond.holds .ne (cmpValue (FP.dcmp x y) .g) = false := by
  unfold deq at h; revert h; generalize FP.dcmp x y = o; rcases o with _ | (_ | _ | _) <;> decide
theorem own_dg_ne_n (h : ¬ deq x y) : ifCond.holds .ne (cmpValue (FP.dcmp x y) .g) = true := by
  unfold deq at h; revert h; generalize FP.dcmp x y = o; rcases o with _ | (_ | _ | _) <;> decide
theorem own_lc_lt_p (h : i < j) : ifCond.holds .lt (if i > j then 1 else if i = j then 0 else -1 : Int32) = true := by
  simp only [gt_iff_lt, Int64.lt_iff_toInt_lt, ← Int64.toInt_inj] at h ⊢
  rcases Int.lt_trichotomy i.toInt j.toInt with q | q | q
  · rw [if_neg (by omega), if_neg (by omega)]; first | rfl | (exfalso; omega)
  · rw [if_neg (by omega), if_pos q]; first | rfl | (exfalso; omega)
  · rw [if_pos q]; first | rfl | (exfalso; omega)
theorem own_lc_lt_n (h : ¬ i < j) : ifCond.holds .lt (if i > j then 1 else if i = j then 0 else -1 : Int32) = false := by
  simp only [gt_iff_lt, Int64.lt_iff_toInt_lt, ← Int64.toInt_inj] at h ⊢
  rcases Int.lt_trichotomy i.toInt j.toInt with q | q | q
  · rw [if_neg (by omega), if_neg (by omega)]; first | rfl | (exfalso; omega)
  · rw [if_neg (by omega), if_pos q]; first | rfl | (exfalso; omega)
  · rw [if_pos q]; first | rfl | (exfalso; omega)
theorem own_lc_ge_p (h : i < j) : ifCond.holds .ge (if i > j then 1 else if i = j then 0 else -1 : Int32) = false := by
  simp only [gt_iff_lt, Int64.lt_iff_toInt_lt, ← Int64.toInt_inj] at h ⊢
  rcases Int.lt_trichotomy i.toInt j.toInt with q | q | q
  · rw [if_neg (by omega), if_neg (by omega)]; first | rfl | (exfalso; omega)
  · rw [if_neg (by omega), if_pos q]; first | rfl | (exfalso; omega)
  · rw [if_pos q]; first | rfl | (exfalso; omega)
theorem own_lc_ge_n (h : ¬ i < j) : ifCond.holds .ge (if i > j then 1 else if i = j then 0 else -1 : Int32) = true := by
  simp only [gt_iff_lt, Int64.lt_iff_toInt_lt, ← Int64.toInt_inj] at h ⊢
  rcases Int.lt_trichotomy i.toInt j.toInt with q | q | q
  · rw [if_neg (by omega), if_neg (by omega)]; first | rfl | (exfalso; omega)
  · rw [if_neg (by omega), if_pos q]; first | rfl | (exfalso; omega)
  · rw [if_pos q]; first | rfl | (exfalso; omega)
theorem own_lc_gt_p (h : j < i) : ifCond.holds .gt (if i > j then 1 else if i = j then 0 else -1 : Int32) = true := by
  simp only [gt_iff_lt, Int64.lt_iff_toInt_lt, ← Int64.toInt_inj] at h ⊢
  rcases Int.lt_trichotomy i.toInt j.toInt with q | q | q
  · rw [if_neg (by omega), if_neg (by omega)]; first | rfl | (exfalso; omega)
  · rw [if_neg (by omega), if_pos q]; first | rfl | (exfalso; omega)
  · rw [if_pos q]; first | rfl | (exfalso; omega)
theorem own_lc_gt_n (h : ¬ j < i) : ifCond.holds .gt (if i > j then 1 else if i = j then 0 else -1 : Int32) = false := by
  simp only [gt_iff_lt, Int64.lt_iff_toInt_lt, ← Int64.toInt_inj] at h ⊢
  rcases Int.lt_trichotomy i.toInt j.toInt with q | q | q
  · rw [if_neg (by omega), if_neg (by omega)]; first | rfl | (exfalso; omega)
  · rw [if_neg (by omega), if_pos q]; first | rfl | (exfalso; omega)
  · rw [if_pos q]; first | rfl | (exfalso; omega)
theorem own_lc_le_p (h : j < i) : ifCond.holds .le (if i > j then 1 else if i = j then 0 else -1 : Int32) = false := by
  simp only [gt_iff_lt, Int64.lt_iff_toInt_lt, ← Int64.toInt_inj] at h ⊢
  rcases Int.lt_trichotomy i.toInt j.toInt with q | q | q
  · rw [if_neg (by omega), if_neg (by omega)]; first | rfl | (exfalso; omega)
  · rw [if_neg (by omega), if_pos q]; first | rfl | (exfalso; omega)
  · rw [if_pos q]; first | rfl | (exfalso; omega)
theorem own_lc_le_n (h : ¬ j < i) : ifCond.holds .le (if i > j then 1 else if i = j then 0 else -1 : Int32) = true := by
  simp only [gt_iff_lt, Int64.lt_iff_toInt_lt, ← Int64.toInt_inj] at h ⊢
  rcases Int.lt_trichotomy i.toInt j.toInt with q | q | q
  · rw [if_neg (by omega), if_neg (by omega)]; first | rfl | (exfalso; omega)
  · rw [if_neg (by omega), if_pos q]; first | rfl | (exfalso; omega)
  · rw [if_pos q]; first | rfl | (exfalso; omega)
theorem own_lc_eq_p (h : i = j) : ifCond.holds .eq (if i > j then 1 else if i = j then 0 else -1 : Int32) = true := by
  simp only [gt_iff_lt, Int64.lt_iff_toInt_lt, ← Int64.toInt_inj] at h ⊢
  rcases Int.lt_trichotomy i.toInt j.toInt with q | q | q
  · rw [if_neg (by omega), if_neg (by omega)]; first | rfl | (exfalso; omega)
  · rw [if_neg (by omega), if_pos q]; first | rfl | (exfalso; omega)
  · rw [if_pos q]; first | rfl | (exfalso; omega)
theorem own_lc_eq_n (h : ¬ i = j) : ifCond.holds .eq (if i > j then 1 else if i = j then 0 else -1 : Int32) = false := by
  simp only [gt_iff_lt, Int64.lt_iff_toInt_lt, ← Int64.toInt_inj] at h ⊢
  rcases Int.lt_trichotomy i.toInt j.toInt with q | q | q
  · rw [if_neg (by omega), if_neg (by omega)]; first | rfl | (exfalso; omega)
  · rw [if_neg (by omega), if_pos q]; first | rfl | (exfalso; omega)
  · rw [if_pos q]; first | rfl | (exfalso; omega)
theorem own_lc_ne_p (h : i = j) : ifCond.holds .ne (if i > j then 1 else if i = j then 0 else -1 : Int32) = false := by
  simp only [gt_iff_lt, Int64.lt_iff_toInt_lt, ← Int64.toInt_inj] at h ⊢
  rcases Int.lt_trichotomy i.toInt j.toInt with q | q | q
  · rw [if_neg (by omega), if_neg (by omega)]; first | rfl | (exfalso; omega)
  · rw [if_neg (by omega), if_pos q]; first | rfl | (exfalso; omega)
  · rw [if_pos q]; first | rfl | (exfalso; omega)
theorem own_lc_ne_n (h : ¬ i = j) : ifCond.holds .ne (if i > j then 1 else if i = j then 0 else -1 : Int32) = true := by
  simp only [gt_iff_lt, Int64.lt_iff_toInt_lt, ← Int64.toInt_inj] at h ⊢
  rcases Int.lt_trichotomy i.toInt j.toInt with q | q | q
  · rw [if_neg (by omega), if_neg (by omega)]; first | rfl | (exfalso; omega)
  · rw [if_neg (by omega), if_pos q]; first | rfl | (exfalso; omega)
  · rw [if_pos q]; first | rfl | (exfalso; omega)
theorem own_i0_lt_p (h : a < 0) : ifCond.holds .lt a = true := (if0 _ _).trans (tlt h).1
theorem own_i0_lt_n (h : ¬ a < 0) : ifCond.holds .lt a = false := (if0 _ _).trans (flt h).1
theorem own_i0_ge_p (h : a < 0) : ifCond.holds .ge a = false := (if0 _ _).trans (tlt h).2.1
theorem own_i0_ge_n (h : ¬ a < 0) : ifCond.holds .ge a = true := (if0 _ _).trans (flt h).2.1
theorem own_i0_gt_p (h : 0 < a) : ifCond.holds .gt a = true := (if0 _ _).trans (tlt h).2.2.1
theorem own_i0_gt_n (h : ¬ 0 < a) : ifCond.holds .gt a = false := (if0 _ _).trans (flt h).2.2.1
theorem own_i0_le_p (h : 0 < a) : ifCond.holds .le a = false := (if0 _ _).trans (tlt h).2.2.2
theorem own_i0_le_n (h : ¬ 0 < a) : ifCond.holds .le a = true := (if0 _ _).trans (flt h).2.2.2
theorem own_i0_eq_p (h : a = 0) : ifCond.holds .eq a = true := (if0 _ _).trans (teq h).1
theorem own_i0_eq_n (h : ¬ a = 0) : ifCond.holds .eq a = false := (if0 _ _).trans (feq h).1
theorem own_i0_ne_p (h : a = 0) : ifCond.holds .ne a = false := (if0 _ _).trans (teq h).2
theorem own_i0_ne_n (h : ¬ a = 0) : ifCond.holds .ne a = true := (if0 _ _).trans (feq h).2
theorem own_ic_lt_p (h : a < b) : if_icmp.holds .lt a b = true := (tlt h).1
theorem own_ic_lt_n (h : ¬ a < b) : if_icmp.holds .lt a b = false := (flt h).1
theorem own_ic_ge_p (h : a < b) : if_icmp.holds .ge a b = false := (tlt h).2.1
theorem own_ic_ge_n (h : ¬ a < b) : if_icmp.holds .ge a b = true := (flt h).2.1
theorem own_ic_gt_p (h : b < a) : if_icmp.holds .gt a b = true := (tlt h).2.2.1
theorem own_ic_gt_n (h : ¬ b < a) : if_icmp.holds .gt a b = false := (flt h).2.2.1
theorem own_ic_le_p (h : b < a) : if_icmp.holds .le a b = false := (tlt h).2.2.2
theorem own_ic_le_n (h : ¬ b < a) : if_icmp.holds .le a b = true := (flt h).2.2.2
theorem own_ic_eq_p (h : a = b) : if_icmp.holds .eq a b = true := (teq h).1
theorem own_ic_eq_n (h : ¬ a = b) : if_icmp.holds .eq a b = false := (feq h).1
theorem own_ic_ne_p (h : a = b) : if_icmp.holds .ne a b = false := (teq h).2
theorem own_ic_ne_n (h : ¬ a = b) : if_icmp.holds .ne a b = true := (feq h).2
end OwnC
section OwnF
open Jvm.FP.Core (val64 zval zmag b64 one64 DFin DZero good_b64 val64_fits inUnits signed sgn)
/-- the value in units of 2^-1074 -/
abbrev zv (x : UInt64) : Int := zval b64 (val64 x)
def uu : Int := ((one64 : Nat) : Int)
theorem uu_pos : 0 < uu := by have := FP.Core.one64_pos; show (0 : Int) < ((one64 : Nat) : Int); omega
theorem own_add_le {x y V : UInt64} (hx : DFin x) (hy : DFin y) (hV : val64 V ≠ .nan) (h : zv x + zv y ≤ zv V) : zv (FP.dadd x y) ≤ zv V := by
  show zval b64 (val64 (FP.Core.dadd x y)) ≤ _
  rw [FP.Core.val64_dadd]; exact FP.Core.sum_le good_b64 hx hy (val64_fits x) (val64_fits y) (val64_fits V) hV h
theorem own_add_ge {x y V : UInt64} (hx : DFin x) (hy : DFin y) (hV : val64 V ≠ .nan) (h : zv V ≤ zv x + zv y) : zv V ≤ zv (FP.dadd x y) := by
  show _ ≤ zval b64 (val64 (FP.Core.dadd x y))
  rw [FP.Core.val64_dadd]; exact FP.Core.sum_ge good_b64 hx hy (val64_fits x) (val64_fits y) (val64_fits V) hV h
theorem own_neg_fin {y : UInt64} (hy : DFin y) : ∃ s c q, FP.Core.negate (val64 y) = .fin s c q := by
  obtain ⟨s, c, q, h⟩ := hy; exact ⟨!s, c, q, by rw [h]; rfl⟩
theorem own_sub_le {x y V : UInt64} (hx : DFin x) (hy : DFin y) (hV : val64 V ≠ .nan) (h : zv x - zv y ≤ zv V) : zv (FP.dsub x y) ≤ zv V := by
  show zval b64 (val64 (FP.Core.dsub x y)) ≤ _
  rw [FP.Core.val64_dsub]; exact FP.Core.sum_le good_b64 hx (own_neg_fin hy) (val64_fits x) (FP.Core.negate_fits (val64_fits y)) (val64_fits V) hV (by rw [FP.Core.zval_negate]; unfold zv at h; omega)
theorem own_sub_ge {x y V : UInt64} (hx : DFin x) (hy : DFin y) (hV : val64 V ≠ .nan) (h : zv V ≤ zv x - zv y) : zv V ≤ zv (FP.dsub x y) := by
  show _ ≤ zval b64 (val64 (FP.Core.dsub x y))
  rw [FP.Core.val64_dsub]; exact FP.Core.sum_ge good_b64 hx (own_neg_fin hy) (val64_fits x) (FP.Core.negate_fits (val64_fits y)) (val64_fits V) hV (by rw [FP.Core.zval_negate]; unfold zv at h; omega)
theorem own_signed_mul (s t : Bool) (m n : Nat) : signed (s != t) (m * n) = signed s m * signed t n := by
  cases s <;> cases t <;> simp [signed, Int.neg_mul, Int.mul_neg]
theorem own_qm : b64.qmin = -1074 := by decide
theorem own_pow_e0 : ((2 ^ (b64.qmin - 2 * b64.qmin).toNat : Nat) : Int) = uu := by
  show _ = ((one64 : Nat) : Int); rw [← FP.Core.pow_qmin64]; congr 3
theorem own_mul_le {x y V : UInt64} (hx : DFin x) (hy : DFin y) (hV : val64 V ≠ .nan) (h : zv x * zv y ≤ zv V * uu) : zv (FP.dmul x y) ≤ zv V := by
  show zval b64 (val64 (FP.Core.dmul x y)) ≤ _
  obtain ⟨s, c, q, ex⟩ := hx
  obtain ⟨t, d, r, ey⟩ := hy
  have fx := val64_fits x; have fy := val64_fits y
  rw [ex] at fx; rw [ey] at fy
  unfold zv at h
  rw [ex, ey] at h
  rw [FP.Core.val64_dmul, ex, ey]
  obtain ⟨e1, e2, e3⟩ := FP.Core.product_units fx fy
  rw [e1]
  refine FP.Core.zval_round_le good_b64 (val64_fits V) hV (e0 := 2 * b64.qmin) (by rw [own_qm]; decide) e2 ?_
  rw [e3, own_pow_e0, own_signed_mul]; exact h
theorem own_mul_ge {x y V : UInt64} (hx : DFin x) (hy : DFin y) (hV : val64 V ≠ .nan) (h : zv V * uu ≤ zv x * zv y) : zv V ≤ zv (FP.dmul x y) := by
  show _ ≤ zval b64 (val64 (FP.Core.dmul x y))
  obtain ⟨s, c, q, ex⟩ := hx
  obtain ⟨t, d, r, ey⟩ := hy
  have fx := val64_fits x; have fy := val64_fits y
  rw [ex] at fx; rw [ey] at fy
  unfold zv at h
  rw [ex, ey] at h
  rw [FP.Core.val64_dmul, ex, ey]
  obtain ⟨e1, e2, e3⟩ := FP.Core.product_units fx fy
  rw [e1]
  refine FP.Core.zval_round_ge good_b64 (val64_fits V) hV (e0 := 2 * b64.qmin) (by rw [own_qm]; decide) e2 ?_
  rw [e3, own_pow_e0, own_signed_mul]; exact h
/-- a quotient's two sides in whole units -/
theorem own_div_units {c d : Nat} {q r : Int} (hq : -1074 ≤ q) (hr : -1074 ≤ r) (hr2 : r ≤ 971) (v : Nat) :
    ∃ k : Nat, 0 < k ∧ inUnits c (q - r) (-2148) * k = inUnits c q (-1074) * one64 * 2 ^ 1074 ∧ (v * 2 ^ (1074 : Nat) * d) * k = v * inUnits d r (-1074) * 2 ^ 1074 := by
  refine ⟨2 ^ (r + 1074).toNat, Nat.two_pow_pos _, ?_, ?_⟩
  · unfold inUnits one64
    rw [Nat.mul_assoc, ← Nat.pow_add, Nat.mul_assoc, Nat.mul_assoc, ← Nat.pow_add, ← Nat.pow_add, show (q - r - -2148).toNat + (r + 1074).toNat = (q - -1074).toNat + (1074 + 1074) by omega]
  · unfold inUnits
    rw [show (r - -1074).toNat = (r + 1074).toNat by omega]
    generalize 2 ^ (1074 : Nat) = w
    generalize 2 ^ (r + 1074).toNat = u
    simp only [Nat.mul_comm, Nat.mul_left_comm, Nat.mul_assoc]
theorem own_div_mag_le {x y V : UInt64} (hx : DFin x) (hy : DFin y) (hz : ¬ DZero y) (hV : val64 V ≠ .nan) (h : zmag b64 (val64 x) * one64 ≤ zmag b64 (val64 V) * zmag b64 (val64 y)) : zmag b64 (val64 (FP.ddiv x y)) ≤ zmag b64 (val64 V) := by
  show zmag b64 (val64 (FP.Core.ddiv x y)) ≤ _
  obtain ⟨s, c, q, ex⟩ := hx
  obtain ⟨t, d, r, ey⟩ := hy
  have fx := val64_fits x; have fy := val64_fits y
  rw [ex] at fx; rw [ey] at fy
  have hd : d ≠ 0 := fun e => hz ⟨t, r, by rw [ey, e]⟩
  rw [FP.Core.val64_ddiv, ex, ey]
  rw [ex, ey] at h
  show zmag b64 (if d = 0 then _ else FP.Core.roundRatio b64 (s != t) c d (q - r)) ≤ _
  rw [if_neg hd]
  have b1 : -1074 ≤ q := own_qm ▸ fx.2.1
  have b2 : -1074 ≤ r := own_qm ▸ fy.2.1
  have b3 : r ≤ 971 := fy.2.2.1
  refine FP.Core.zmag_roundRatio_le good_b64 (Nat.pos_of_ne_zero hd) (val64_fits V) hV (e0 := -2148) (by rw [own_qm]; decide) (by omega) ?_
  obtain ⟨k, hk, k1, k2⟩ := own_div_units (c := c) (d := d) b1 b2 b3 (zmag b64 (val64 V))
  rw [show (b64.qmin - -2148).toNat = 1074 by rw [own_qm]; decide]
  refine Nat.le_of_mul_le_mul_right ?_ hk
  rw [k1, k2]
  exact Nat.mul_le_mul_right _ (by have := h; simp only [zmag, own_qm] at this; exact this)
theorem own_div_mag_ge {x y V : UInt64} (hx : DFin x) (hy : DFin y) (hz : ¬ DZero y) (h : zmag b64 (val64 V) * zmag b64 (val64 y) ≤ zmag b64 (val64 x) * one64) : zmag b64 (val64 V) ≤ zmag b64 (val64 (FP.ddiv x y)) := by
  show _ ≤ zmag b64 (val64 (FP.Core.ddiv x y))
  obtain ⟨s, c, q, ex⟩ := hx
  obtain ⟨t, d, r, ey⟩ := hy
  have fx := val64_fits x; have fy := val64_fits y
  rw [ex] at fx; rw [ey] at fy
  have hd : d ≠ 0 := fun e => hz ⟨t, r, by rw [ey, e]⟩
  rw [FP.Core.val64_ddiv, ex, ey]
  rw [ex, ey] at h
  show _ ≤ zmag b64 (if d = 0 then _ else FP.Core.roundRatio b64 (s != t) c d (q - r))
  rw [if_neg hd]
  have b1 : -1074 ≤ q := own_qm ▸ fx.2.1
  have b2 : -1074 ≤ r := own_qm ▸ fy.2.1
  have b3 : r ≤ 971 := fy.2.2.1
  refine FP.Core.zmag_roundRatio_ge good_b64 (Nat.pos_of_ne_zero hd) (val64_fits V) (e0 := -2148) (by rw [own_qm]; decide) (by omega) ?_
  obtain ⟨k, hk, k1, k2⟩ := own_div_units (c := c) (d := d) b1 b2 b3 (zmag b64 (val64 V))
  rw [show (b64.qmin - -2148).toNat = 1074 by rw [own_qm]; decide]
  refine Nat.le_of_mul_le_mul_right ?_ hk
  rw [k1, k2]
  exact Nat.mul_le_mul_right _ (by have := h; simp only [zmag, own_qm] at this; exact this)
theorem own_sgn_div {x y : UInt64} (hx : DFin x) (hy : DFin y) (hz : ¬ DZero y) : sgn (val64 (FP.ddiv x y)) = (sgn (val64 x) != sgn (val64 y)) := by
  show sgn (val64 (FP.Core.ddiv x y)) = _
  obtain ⟨s, c, q, ex⟩ := hx
  obtain ⟨t, d, r, ey⟩ := hy
  have hd : d ≠ 0 := fun e => hz ⟨t, r, by rw [ey, e]⟩
  rw [FP.Core.val64_ddiv, ex, ey]
  show sgn (if d = 0 then _ else FP.Core.roundRatio b64 (s != t) c d (q - r)) = _
  rw [if_neg hd, FP.Core.sgn_roundRatio]; rfl
theorem own_notz {y : UInt64} (hy : DFin y) (h : 0 < zv y) : ¬ DZero y := fun q => by have := q.zval; unfold zv at h; omega
theorem own_possg {y : UInt64} (h : 0 < zv y) : sgn (val64 y) = false ∧ ((zmag b64 (val64 y) : Nat) : Int) = zv y := by
  unfold zv zval at *
  cases e : sgn (val64 y) <;> rw [e] at h <;> simp only [signed, if_true, Bool.false_eq_true, if_false] at h ⊢
  · exact ⟨trivial, trivial⟩
  · omega
theorem own_div_le {x y V : UInt64} (hx : DFin x) (hy : DFin y) (h0 : 0 < zv y) (hV : val64 V ≠ .nan) (h : zv x * uu ≤ zv V * zv y) : zv (FP.ddiv x y) ≤ zv V := by
  have hz := own_notz hy h0
  obtain ⟨s1, s2⟩ := own_possg h0
  have sd := own_sgn_div hx hy hz
  have L := own_div_mag_le (V := V) hx hy hz hV
  have G := own_div_mag_ge (V := V) hx hy hz
  rw [← s2] at h
  have hy0 : 0 < zmag b64 (val64 y) := by omega
  unfold zv zval at h ⊢
  rw [sd, s1]
  have u0 := FP.Core.one64_pos
  have e : uu = ((one64 : Nat) : Int) := rfl
  rw [e] at h
  generalize zmag b64 (val64 y) = my at *
  generalize zmag b64 (val64 x) = mx at *
  generalize zmag b64 (val64 V) = mv at *
  generalize zmag b64 (val64 (FP.ddiv x y)) = md at *
  generalize one64 = u at *
  have p1 : ((mx : Nat) : Int) * ((u : Nat) : Int) = ((mx * u : Nat) : Int) := (Int.natCast_mul ..).symm
  have p2 : ((mv : Nat) : Int) * ((my : Nat) : Int) = ((mv * my : Nat) : Int) := (Int.natCast_mul ..).symm
  have z1 : mv * my = 0 → mv = 0 := fun q => by rcases Nat.mul_eq_zero.mp q with q | q <;> omega
  generalize sgn (val64 x) = sx at h ⊢
  generalize sgn (val64 V) = sV at h ⊢
  cases sx <;> cases sV <;> simp only [signed, if_true, Bool.false_eq_true, if_false, Int.neg_mul, p1, p2, bne_self_eq_false, Bool.bne_false] at h ⊢
  · have := L (by omega); omega
  · have := L (by omega); have := z1 (by omega); omega
  · omega
  · have := G (by omega); omega
theorem own_div_ge {x y V : UInt64} (hx : DFin x) (hy : DFin y) (h0 : 0 < zv y) (hV : val64 V ≠ .nan) (h : zv V * zv y ≤ zv x * uu) : zv V ≤ zv (FP.ddiv x y) := by
  have hz := own_notz hy h0
  obtain ⟨s1, s2⟩ := own_possg h0
  have sd := own_sgn_div hx hy hz
  have L := own_div_mag_le (V := V) hx hy hz hV
  have G := own_div_mag_ge (V := V) hx hy hz
  rw [← s2] at h
  have hy0 : 0 < zmag b64 (val64 y) := by omega
  unfold zv zval at h ⊢
  rw [sd, s1]
  have u0 := FP.Core.one64_pos
  have e : uu = ((one64 : Nat) : Int) := rfl
  rw [e] at h
  generalize zmag b64 (val64 y) = my at *
  generalize zmag b64 (val64 x) = mx at *
  generalize zmag b64 (val64 V) = mv at *
  generalize zmag b64 (val64 (FP.ddiv x y)) = md at *
  generalize one64 = u at *
  have p1 : ((mx : Nat) : Int) * ((u : Nat) : Int) = ((mx * u : Nat) : Int) := (Int.natCast_mul ..).symm
  have p2 : ((mv : Nat) : Int) * ((my : Nat) : Int) = ((mv * my : Nat) : Int) := (Int.natCast_mul ..).symm
  have z1 : mv * my = 0 → mv = 0 := fun q => by rcases Nat.mul_eq_zero.mp q with q | q <;> omega
  generalize sgn (val64 x) = sx at h ⊢
  generalize sgn (val64 V) = sV at h ⊢
  cases sx <;> cases sV <;> simp only [signed, if_true, Bool.false_eq_true, if_false, Int.neg_mul, p1, p2, bne_self_eq_false, Bool.bne_false] at h ⊢
  · have := G (by omega); omega
  · omega
  · have := L (by omega); have := z1 (by omega); omega
  · have := L (by omega); omega
theorem own_bits_of_zv {x : UInt64} (hn : val64 x ≠ .nan) {V : UInt64} (hV : DFin V) (h : zv x = zv V) : DFin x := by
  have q := hV.zval_lt
  cases e : val64 x with
  | nan => exact absurd e hn
  | fin s c r => exact ⟨s, c, r, e⟩
  | inf s =>
    exfalso
    have a1 : (zv x).natAbs = zmag b64 (val64 x) := by unfold zv zval; cases sgn (val64 x) <;> simp [signed]
    have a2 : (zv V).natAbs = zmag b64 (val64 V) := by unfold zv zval; cases sgn (val64 V) <;> simp [signed]
    rw [h, a2, e] at a1
    rw [a1] at q
    exact Nat.lt_irrefl _ q
/-- every n / 2^k of at most 53 digits is a double -/
theorem own_rep (n : Int) (k : Nat) (h1 : n.natAbs < 9007199254740992) (hk : k ≤ 1074) : ∃ V : UInt64, DFin V ∧ zv V * ((2 ^ k : Nat) : Int) = n * uu := by
  obtain ⟨c', q', e1, e2⟩ := FP.Core.round_exact good_b64 (decide (n < 0)) (c := n.natAbs) (q := -(k : Int)) (by exact h1) (by rw [own_qm]; omega) (by have h971 : b64.qmax = 971 := (by decide); omega)
  have f := FP.Core.round_fits good_b64 (.fin (decide (n < 0)) n.natAbs (-(k : Int)))
  refine ⟨FP.Core.of64 (FP.Core.round b64 (.fin (decide (n < 0)) n.natAbs (-(k : Int)))), ⟨decide (n < 0), c', q', by rw [FP.Core.val64_of64 f, e1]⟩, ?_⟩
  unfold zv
  rw [FP.Core.val64_of64 f, e1]
  show signed (decide (n < 0)) (inUnits c' q' b64.qmin) * _ = _
  rw [e2]
  unfold inUnits
  rw [FP.Core.signed_mul, Int.mul_assoc, ← Int.natCast_mul, ← Nat.pow_add, show (-(k : Int) - b64.qmin).toNat + k = 1074 by rw [own_qm]; omega]
  have s0 : signed (decide (n < 0)) n.natAbs = n := by
    unfold signed
    by_cases q : n < 0 <;> simp [q] <;> omega
  rw [s0]; rfl
/-- x is the number n / 2^k -/
def Dy (x : UInt64) (n : Int) (k : Nat) : Prop := DFin x ∧ zv x * ((2 ^ k : Nat) : Int) = n * uu
theorem Dy.fin {x : UInt64} {n : Int} {k : Nat} (D : Dy x n k) : DFin x := D.1
theorem Dy.nn {x : UInt64} {n : Int} {k : Nat} (D : Dy x n k) : NoNaN64 x := Fl.val64_no.mpr D.1.ne_nan
theorem own_pk (k : Nat) : 0 < ((2 ^ k : Nat) : Int) := by have := Nat.two_pow_pos k; omega
theorem own_mid {a b c d : Int} {k : Nat} (h1 : a * ((2 ^ k : Nat) : Int) = c) (h2 : b * ((2 ^ k : Nat) : Int) = d) : (a ≤ b ↔ c ≤ d) ∧ (a < b ↔ c < d) ∧ (a = b ↔ c = d) := by
  have p := own_pk k
  subst h1 h2
  generalize ((2 ^ k : Nat) : Int) = w at *
  exact ⟨(Int.mul_le_mul_right p).symm, (Int.mul_lt_mul_right p).symm, ⟨fun q => by rw [q], fun q => Int.eq_of_mul_eq_mul_right (by omega) q⟩⟩
theorem Dy.cmp {x y : UInt64} {n m : Int} {k : Nat} (A : Dy x n k) (B : Dy y m k) : FP.dcmp x y = some (compare n m) := by
  show FP.Core.dcmp x y = _
  rw [FP.Core.dcmp_zval A.1.ne_nan B.1.ne_nan]
  congr 1
  obtain ⟨-, q2, q3⟩ := own_mid A.2 B.2
  have u := uu_pos
  refine FP.Core.compare_congr (q2.trans ⟨fun q => ?_, fun q => Int.mul_lt_mul_of_pos_right q u⟩) (q3.trans ⟨fun q => Int.eq_of_mul_eq_mul_right (by omega) q, fun q => by rw [q]⟩)
  exact Int.lt_of_mul_lt_mul_right q (Int.le_of_lt u)
theorem Dy.lt {x y : UInt64} {n m : Int} {k : Nat} (A : Dy x n k) (B : Dy y m k) : FP.dcmp x y = some .lt ↔ n < m := by
  rw [A.cmp B, Option.some.injEq, FP.Core.compare_lt_iff]
theorem Dy.gt {x y : UInt64} {n m : Int} {k : Nat} (A : Dy x n k) (B : Dy y m k) : FP.dcmp x y = some .gt ↔ m < n := by
  rw [A.cmp B, Option.some.injEq, FP.Core.compare_gt_iff]
theorem Dy.eq {x y : UInt64} {n m : Int} {k : Nat} (A : Dy x n k) (B : Dy y m k) : FP.dcmp x y = some .eq ↔ n = m := by
  rw [A.cmp B, Option.some.injEq, FP.Core.compare_eq_iff]
theorem Dy.of_zv {x V : UInt64} {n : Int} {k : Nat} (hn : val64 x ≠ .nan) (hV : DFin V) (e : zv V * ((2 ^ k : Nat) : Int) = n * uu) (h1 : zv x ≤ zv V) (h2 : zv V ≤ zv x) : Dy x n k := by
  have q : zv x = zv V := by omega
  exact ⟨own_bits_of_zv hn hV q, by rw [q]; exact e⟩
theorem own_nn_add {x y : UInt64} (hx : DFin x) (hy : DFin y) : val64 (FP.dadd x y) ≠ .nan := Fl.val64_no.mp (Fl.noNaN64_no.mpr (FP.Core.dadd_out hx.notNaN hy))
theorem own_nn_sub {x y : UInt64} (hx : DFin x) (hy : DFin y) : val64 (FP.dsub x y) ≠ .nan := Fl.val64_no.mp (Fl.noNaN64_no.mpr (FP.Core.dsub_out hx.notNaN hy))
theorem own_nn_mul {x y : UInt64} (hx : DFin x) (hy : DFin y) : val64 (FP.dmul x y) ≠ .nan := Fl.val64_no.mp (Fl.noNaN64_no.mpr (FP.Core.dmul_out hx hy))
theorem own_nn_div {x y : UInt64} (hx : DFin x) (hy : DFin y) (hz : ¬ DZero y) : val64 (FP.ddiv x y) ≠ .nan := Fl.val64_no.mp (Fl.noNaN64_no.mpr (FP.Core.ddiv_out hx.notNaN hy hz))
theorem Dy.add {x y : UInt64} {n m : Int} {k : Nat} (A : Dy x n k) (B : Dy y m k) (hb : (n + m).natAbs < 9007199254740992) (hk : k ≤ 1074) : Dy (FP.dadd x y) (n + m) k := by
  obtain ⟨V, fV, eV⟩ := own_rep (n + m) k hb hk
  have e : (zv x + zv y) * ((2 ^ k : Nat) : Int) = (n + m) * uu := by rw [Int.add_mul, A.2, B.2, Int.add_mul]
  obtain ⟨-, -, q⟩ := own_mid e eV
  have q := q.mpr rfl
  exact Dy.of_zv (own_nn_add A.1 B.1) fV eV (own_add_le A.1 B.1 fV.ne_nan (by omega)) (own_add_ge A.1 B.1 fV.ne_nan (by omega))
theorem Dy.sub {x y : UInt64} {n m : Int} {k : Nat} (A : Dy x n k) (B : Dy y m k) (hb : (n - m).natAbs < 9007199254740992) (hk : k ≤ 1074) : Dy (FP.dsub x y) (n - m) k := by
  obtain ⟨V, fV, eV⟩ := own_rep (n - m) k hb hk
  have e : (zv x - zv y) * ((2 ^ k : Nat) : Int) = (n - m) * uu := by rw [Int.sub_mul, A.2, B.2, Int.sub_mul]
  obtain ⟨-, -, q⟩ := own_mid e eV
  have q := q.mpr rfl
  exact Dy.of_zv (own_nn_sub A.1 B.1) fV eV (own_sub_le A.1 B.1 fV.ne_nan (by omega)) (own_sub_ge A.1 B.1 fV.ne_nan (by omega))
theorem own_alg1 {X Y K J n m u : Int} (a : X * K = n * u) (b : Y * J = m * u) : X * Y * (K * J) = n * m * u * u := by
  calc X * Y * (K * J) = (X * K) * (Y * J) := by ac_rfl
    _ = (n * u) * (m * u) := by rw [a, b]
    _ = n * m * u * u := by ac_rfl
theorem own_alg2 {V K N u : Int} (e : V * K = N * u) : V * u * K = N * u * u := by
  calc V * u * K = V * K * u := by ac_rfl
    _ = N * u * u := by rw [e]
theorem own_alg3 {X Y V K J I n m r u : Int} (a : X * K = n * u) (b : Y * J = m * u) (e : V * I = r * u) : X * u * (K * (J * I)) = n * (J * I) * (u * u) ∧ V * Y * (K * (J * I)) = r * m * K * (u * u) := by
  constructor
  · calc X * u * (K * (J * I)) = (X * K) * u * (J * I) := by ac_rfl
      _ = n * u * u * (J * I) := by rw [a]
      _ = n * (J * I) * (u * u) := by ac_rfl
  · calc V * Y * (K * (J * I)) = (V * I) * (Y * J) * K := by ac_rfl
      _ = (r * u) * (m * u) * K := by rw [e, b]
      _ = r * m * K * (u * u) := by ac_rfl
theorem Dy.mul {x y : UInt64} {n m : Int} {k j : Nat} (A : Dy x n k) (B : Dy y m j) (hb : (n * m).natAbs < 9007199254740992) (hk : k + j ≤ 1074) : Dy (FP.dmul x y) (n * m) (k + j) := by
  obtain ⟨V, fV, eV⟩ := own_rep (n * m) (k + j) hb hk
  have e : (zv x * zv y) * ((2 ^ (k + j) : Nat) : Int) = (n * m) * uu * uu := by
    rw [Nat.pow_add, Int.natCast_mul]; exact own_alg1 A.2 B.2
  have e' : (zv V * uu) * ((2 ^ (k + j) : Nat) : Int) = (n * m) * uu * uu := own_alg2 eV
  obtain ⟨-, -, q⟩ := own_mid e e'
  have q := q.mpr rfl
  exact Dy.of_zv (own_nn_mul A.1 B.1) fV eV (own_mul_le A.1 B.1 fV.ne_nan (by omega)) (own_mul_ge A.1 B.1 fV.ne_nan (by omega))
theorem Dy.pos {y : UInt64} {m : Int} {j : Nat} (B : Dy y m j) (hm : 0 < m) : 0 < zv y := by
  have p := own_pk j
  have b := B.2
  have : 0 < m * uu := Int.mul_pos hm uu_pos
  rw [← b] at this
  exact Int.lt_of_mul_lt_mul_right (by rw [Int.zero_mul]; exact this) (Int.le_of_lt p)
/-- an exact quotient -/
theorem Dy.div {x y : UInt64} {n m r : Int} {k j i : Nat} (A : Dy x n k) (B : Dy y m j) (hm : 0 < m) (hq : n * ((2 ^ (j + i) : Nat) : Int) = r * m * ((2 ^ k : Nat) : Int)) (hb : r.natAbs < 9007199254740992) (hi : i ≤ 1074) : Dy (FP.ddiv x y) r i := by
  obtain ⟨V, fV, eV⟩ := own_rep r i hb hi
  have h0 := B.pos hm
  have e : zv x * uu = zv V * zv y := by
    have pk := own_pk k; have pj := own_pk j; have pi := own_pk i
    rw [Nat.pow_add, Int.natCast_mul] at hq
    obtain ⟨a1, a2⟩ := own_alg3 A.2 B.2 eV
    refine Int.eq_of_mul_eq_mul_right (a := ((2 ^ k : Nat) : Int) * (((2 ^ j : Nat) : Int) * ((2 ^ i : Nat) : Int))) (Int.ne_of_gt (Int.mul_pos pk (Int.mul_pos pj pi))) ?_
    rw [a1, a2, hq]
  exact Dy.of_zv (own_nn_div A.1 B.1 (own_notz B.1 h0)) fV eV (own_div_le A.1 B.1 h0 fV.ne_nan (by omega)) (own_div_ge A.1 B.1 h0 fV.ne_nan (by omega))
theorem Dy.up {x : UInt64} {n : Int} {k : Nat} (A : Dy x n k) (j : Nat) : Dy x (n * ((2 ^ j : Nat) : Int)) (k + j) := by
  refine ⟨A.1, ?_⟩
  rw [Nat.pow_add, Int.natCast_mul, ← Int.mul_assoc, A.2]; exact Int.mul_right_comm _ _ _
theorem Dy.to {x : UInt64} {n n' : Int} {k : Nat} (A : Dy x n k) (e : n = n') : Dy x n' k := e ▸ A
theorem own_dy_int {x : UInt64} {i : Int} (h : FP.Core.DInt i x) : Dy x i 0 := by
  have z := FP.Core.DInt_zval h
  have n := FP.Core.DInt_ne_nan h
  refine ⟨?_, by rw [show ((2 ^ 0 : Nat) : Int) = 1 from rfl, Int.mul_one]; exact z⟩
  unfold FP.Core.DInt at h
  cases e : val64 x with
  | nan => exact absurd e n
  | inf s => rw [e] at h; exact h.elim
  | fin s c q => exact ⟨s, c, q, e⟩
theorem dy_i2d (a : Int32) : Dy (FP.i2d a) a.toInt 0 := own_dy_int (FP.Core.i2d_int a)
theorem dy_l2d {a : Int64} (h1 : -9007199254740992 < a.toInt) (h2 : a.toInt < 9007199254740992) : Dy (FP.l2d a) a.toInt 0 := own_dy_int (FP.Core.l2d_whole ⟨h1, h2⟩)
/-- 0.0 + x is x, bit for bit, for a finite x that isn't -0.0 -/
theorem own_zero_add {x : UInt64} {s : Bool} {c : Nat} {q : Int} (hx : val64 x = .fin s c q) (h0 : c = 0 → s = false) : FP.dadd 0 x = x := by
  show FP.Core.dadd 0 x = x
  have fx := val64_fits x
  rw [hx] at fx
  have hq := fx.2.1
  have key : val64 (FP.Core.dadd 0 x) = .fin s c q := by
    rw [FP.Core.val64_dadd, FP.Core.val64_zero, hx]
    have m : min b64.qmin q = b64.qmin := by omega
    have u : FP.Core.sumUnits false 0 b64.qmin s c q b64.qmin = signed s (inUnits c q b64.qmin) := by
      unfold FP.Core.sumUnits; simp [signed, inUnits]
    show FP.Core.roundRatio b64 (FP.Core.sumSign false s (FP.Core.sumUnits false 0 b64.qmin s c q (min b64.qmin q))) (FP.Core.sumUnits false 0 b64.qmin s c q (min b64.qmin q)).natAbs 1 (min b64.qmin q) = _
    rw [m, u]
    have na : (signed s (inUnits c q b64.qmin)).natAbs = inUnits c q b64.qmin := by unfold signed; cases s <;> simp
    have sg : FP.Core.sumSign false s (signed s (inUnits c q b64.qmin)) = s := by
      have pp := Nat.two_pow_pos (q - b64.qmin).toNat
      unfold FP.Core.sumSign
      by_cases c0 : c = 0
      · subst c0; simp [signed, inUnits, h0 rfl]
      · have : 0 < inUnits c q b64.qmin := Nat.mul_pos (Nat.pos_of_ne_zero c0) pp
        cases s <;> simp [signed] <;> omega
    rw [na, sg]
    refine FP.Core.roundRatio_exact good_b64 (by decide) fx ?_
    rw [show (b64.qmin - q).toNat = 0 by omega, Nat.pow_zero, Nat.mul_one, Nat.mul_one]; rfl
  exact FP.Core.val64_inj (by rw [key]; exact FP.Core.Datum.noConfusion) (key.trans hx.symm)
theorem own_scale3 {X Y n m r : Int} {k j i : Nat} {V : Int} (a : X * ((2 ^ k : Nat) : Int) = n * uu) (b : Y * ((2 ^ j : Nat) : Int) = m * uu) (e : V * ((2 ^ i : Nat) : Int) = r * uu) :
    X * uu * (((2 ^ k : Nat) : Int) * (((2 ^ j : Nat) : Int) * ((2 ^ i : Nat) : Int))) = n * ((2 ^ (j + i) : Nat) : Int) * (uu * uu) ∧ V * Y * (((2 ^ k : Nat) : Int) * (((2 ^ j : Nat) : Int) * ((2 ^ i : Nat) : Int))) = r * m * ((2 ^ k : Nat) : Int) * (uu * uu) := by
  rw [Nat.pow_add, Int.natCast_mul]; exact own_alg3 a b e
theorem Dy.div_le {x y V : UInt64} {n m r : Int} {k j i : Nat} (A : Dy x n k) (B : Dy y m j) (hm : 0 < m) (C : Dy V r i) (h : n * ((2 ^ (j + i) : Nat) : Int) ≤ r * m * ((2 ^ k : Nat) : Int)) : zv (FP.ddiv x y) ≤ zv V := by
  refine own_div_le A.1 B.1 (B.pos hm) C.1.ne_nan ?_
  obtain ⟨e1, e2⟩ := own_scale3 A.2 B.2 C.2
  have p : 0 < ((2 ^ k : Nat) : Int) * (((2 ^ j : Nat) : Int) * ((2 ^ i : Nat) : Int)) := Int.mul_pos (own_pk k) (Int.mul_pos (own_pk j) (own_pk i))
  refine Int.le_of_mul_le_mul_right ?_ p
  rw [e1, e2]
  exact Int.mul_le_mul_of_nonneg_right h (Int.le_of_lt (Int.mul_pos uu_pos uu_pos))
theorem Dy.div_ge {x y V : UInt64} {n m r : Int} {k j i : Nat} (A : Dy x n k) (B : Dy y m j) (hm : 0 < m) (C : Dy V r i) (h : r * m * ((2 ^ k : Nat) : Int) ≤ n * ((2 ^ (j + i) : Nat) : Int)) : zv V ≤ zv (FP.ddiv x y) := by
  refine own_div_ge A.1 B.1 (B.pos hm) C.1.ne_nan ?_
  obtain ⟨e1, e2⟩ := own_scale3 A.2 B.2 C.2
  have p : 0 < ((2 ^ k : Nat) : Int) * (((2 ^ j : Nat) : Int) * ((2 ^ i : Nat) : Int)) := Int.mul_pos (own_pk k) (Int.mul_pos (own_pk j) (own_pk i))
  refine Int.le_of_mul_le_mul_right ?_ p
  rw [e1, e2]
  exact Int.mul_le_mul_of_nonneg_right h (Int.le_of_lt (Int.mul_pos uu_pos uu_pos))
/-- the order of two numbers written over one power of two -/
theorem Dy.zle {x y : UInt64} {n m : Int} {k : Nat} (A : Dy x n k) (B : Dy y m k) : (zv x ≤ zv y ↔ n ≤ m) ∧ (zv x < zv y ↔ n < m) := by
  obtain ⟨q1, q2, -⟩ := own_mid A.2 B.2
  have u := uu_pos
  exact ⟨q1.trans ⟨fun q => Int.le_of_mul_le_mul_right q u, fun q => Int.mul_le_mul_of_nonneg_right q (Int.le_of_lt u)⟩, q2.trans ⟨fun q => Int.lt_of_mul_lt_mul_right q (Int.le_of_lt u), fun q => Int.mul_lt_mul_of_pos_right q u⟩⟩
end OwnF
theorem pn_com_example_volts_to_velocity_voltstovelocity_ScoreNoiseCovariancePinLaw : plainName "com/example/volts_to_velocity/voltstovelocity/ScoreNoiseCovariancePinLaw" = true := by first | (simp [plainName, overriddenIn]; done) | decide +kernel
theorem pn_com_example_volts_to_velocity_voltstovelocity_ScoreNoise : plainName "com/example/volts_to_velocity/voltstovelocity/ScoreNoise" = true := by first | (simp [plainName, overriddenIn]; done) | decide +kernel
theorem d1_0 : decode prog_20_method_1_code 0 = .ok (.aload_n 0, 1) := by decide +kernel
theorem d1_1 : decode prog_20_method_1_code 1 = .ok (.invokespecial 1, 3) := by decide +kernel
theorem d1_4 : decode prog_20_method_1_code 4 = .ok (.aload_n 0, 1) := by decide +kernel
theorem d1_5 : decode prog_20_method_1_code 5 = .ok (.iconst 3, 1) := by decide +kernel
theorem d1_6 : decode prog_20_method_1_code 6 = .ok (.iconst 3, 1) := by decide +kernel
theorem d1_7 : decode prog_20_method_1_code 7 = .ok (.multianewarray 7 2, 4) := by decide +kernel
theorem d1_11 : decode prog_20_method_1_code 11 = .ok (.putfield 9, 3) := by decide +kernel
theorem d1_14 : decode prog_20_method_1_code 14 = .ok (.aload_n 0, 1) := by decide +kernel
theorem d1_15 : decode prog_20_method_1_code 15 = .ok (.iconst 3, 1) := by decide +kernel
theorem d1_16 : decode prog_20_method_1_code 16 = .ok (.iconst 3, 1) := by decide +kernel
theorem d1_17 : decode prog_20_method_1_code 17 = .ok (.multianewarray 7 2, 4) := by decide +kernel
theorem d1_21 : decode prog_20_method_1_code 21 = .ok (.putfield 14, 3) := by decide +kernel
theorem d1_24 : decode prog_20_method_1_code 24 = .ok (.return_, 1) := by decide +kernel
theorem d3_0 : decode prog_20_method_2_code 0 = .ok (.aload_n 0, 1) := by decide +kernel
theorem d3_1 : decode prog_20_method_2_code 1 = .ok (.getfield 9, 3) := by decide +kernel
theorem d3_4 : decode prog_20_method_2_code 4 = .ok (.aload_n 1, 1) := by decide +kernel
theorem d3_5 : decode prog_20_method_2_code 5 = .ok (.iload_n 2, 1) := by decide +kernel
theorem d3_6 : decode prog_20_method_2_code 6 = .ok (.invokestatic 17, 3) := by decide +kernel
theorem d3_9 : decode prog_20_method_2_code 9 = .ok (.return_, 1) := by decide +kernel
theorem d4_0 : decode prog_20_method_7_code 0 = .ok (.iconst 0, 1) := by decide +kernel
theorem d4_1 : decode prog_20_method_7_code 1 = .ok (.istore_n 3, 1) := by decide +kernel
theorem d4_2 : decode prog_20_method_7_code 2 = .ok (.iload_n 3, 1) := by decide +kernel
theorem d4_3 : decode prog_20_method_7_code 3 = .ok (.iconst 3, 1) := by decide +kernel
theorem d4_4 : decode prog_20_method_7_code 4 = .ok (.if_icmp .ge 44, 3) := by decide +kernel
theorem d4_7 : decode prog_20_method_7_code 7 = .ok (.iconst 0, 1) := by decide +kernel
theorem d4_8 : decode prog_20_method_7_code 8 = .ok (.istore 4, 2) := by decide +kernel
theorem d4_10 : decode prog_20_method_7_code 10 = .ok (.iload 4, 2) := by decide +kernel
theorem d4_12 : decode prog_20_method_7_code 12 = .ok (.iconst 3, 1) := by decide +kernel
theorem d4_13 : decode prog_20_method_7_code 13 = .ok (.if_icmp .ge 29, 3) := by decide +kernel
theorem d4_16 : decode prog_20_method_7_code 16 = .ok (.aload_n 0, 1) := by decide +kernel
theorem d4_17 : decode prog_20_method_7_code 17 = .ok (.iload_n 3, 1) := by decide +kernel
theorem d4_18 : decode prog_20_method_7_code 18 = .ok (.aaload, 1) := by decide +kernel
theorem d4_19 : decode prog_20_method_7_code 19 = .ok (.iload 4, 2) := by decide +kernel
theorem d4_21 : decode prog_20_method_7_code 21 = .ok (.dup2, 1) := by decide +kernel
theorem d4_22 : decode prog_20_method_7_code 22 = .ok (.daload, 1) := by decide +kernel
theorem d4_23 : decode prog_20_method_7_code 23 = .ok (.aload_n 1, 1) := by decide +kernel
theorem d4_24 : decode prog_20_method_7_code 24 = .ok (.iload_n 3, 1) := by decide +kernel
theorem d4_25 : decode prog_20_method_7_code 25 = .ok (.daload, 1) := by decide +kernel
theorem d4_26 : decode prog_20_method_7_code 26 = .ok (.aload_n 1, 1) := by decide +kernel
theorem d4_27 : decode prog_20_method_7_code 27 = .ok (.iload 4, 2) := by decide +kernel
theorem d4_29 : decode prog_20_method_7_code 29 = .ok (.daload, 1) := by decide +kernel
theorem d4_30 : decode prog_20_method_7_code 30 = .ok (.dmul, 1) := by decide +kernel
theorem d4_31 : decode prog_20_method_7_code 31 = .ok (.iload_n 2, 1) := by decide +kernel
theorem d4_32 : decode prog_20_method_7_code 32 = .ok (.i2d, 1) := by decide +kernel
theorem d4_33 : decode prog_20_method_7_code 33 = .ok (.ddiv, 1) := by decide +kernel
theorem d4_34 : decode prog_20_method_7_code 34 = .ok (.dadd, 1) := by decide +kernel
theorem d4_35 : decode prog_20_method_7_code 35 = .ok (.dastore, 1) := by decide +kernel
theorem d4_36 : decode prog_20_method_7_code 36 = .ok (.iinc 4 1, 3) := by decide +kernel
theorem d4_39 : decode prog_20_method_7_code 39 = .ok (.goto (-29), 3) := by decide +kernel
theorem d4_42 : decode prog_20_method_7_code 42 = .ok (.iinc 3 1, 3) := by decide +kernel
theorem d4_45 : decode prog_20_method_7_code 45 = .ok (.goto (-43), 3) := by decide +kernel
theorem d4_48 : decode prog_20_method_7_code 48 = .ok (.return_, 1) := by decide +kernel
theorem d5_0 : decode prog_20_method_3_code 0 = .ok (.aload_n 0, 1) := by decide +kernel
theorem d5_1 : decode prog_20_method_3_code 1 = .ok (.getfield 14, 3) := by decide +kernel
theorem d5_4 : decode prog_20_method_3_code 4 = .ok (.aload_n 1, 1) := by decide +kernel
theorem d5_5 : decode prog_20_method_3_code 5 = .ok (.iload_n 2, 1) := by decide +kernel
theorem d5_6 : decode prog_20_method_3_code 6 = .ok (.invokestatic 17, 3) := by decide +kernel
theorem d5_9 : decode prog_20_method_3_code 9 = .ok (.return_, 1) := by decide +kernel
theorem d6_0 : decode prog_20_method_6_code 0 = .ok (.iconst 3, 1) := by decide +kernel
theorem d6_1 : decode prog_20_method_6_code 1 = .ok (.iconst 3, 1) := by decide +kernel
theorem d6_2 : decode prog_20_method_6_code 2 = .ok (.multianewarray 7 2, 4) := by decide +kernel
theorem d6_6 : decode prog_20_method_6_code 6 = .ok (.astore 5, 2) := by decide +kernel
theorem d6_8 : decode prog_20_method_6_code 8 = .ok (.iconst 0, 1) := by decide +kernel
theorem d6_9 : decode prog_20_method_6_code 9 = .ok (.istore 6, 2) := by decide +kernel
theorem d6_11 : decode prog_20_method_6_code 11 = .ok (.iload 6, 2) := by decide +kernel
theorem d6_13 : decode prog_20_method_6_code 13 = .ok (.iconst 3, 1) := by decide +kernel
theorem d6_14 : decode prog_20_method_6_code 14 = .ok (.if_icmp .ge 57, 3) := by decide +kernel
theorem d6_17 : decode prog_20_method_6_code 17 = .ok (.iconst 0, 1) := by decide +kernel
theorem d6_18 : decode prog_20_method_6_code 18 = .ok (.istore 7, 2) := by decide +kernel
theorem d6_20 : decode prog_20_method_6_code 20 = .ok (.iload 7, 2) := by decide +kernel
theorem d6_22 : decode prog_20_method_6_code 22 = .ok (.iconst 3, 1) := by decide +kernel
theorem d6_23 : decode prog_20_method_6_code 23 = .ok (.if_icmp .ge 42, 3) := by decide +kernel
theorem d6_26 : decode prog_20_method_6_code 26 = .ok (.aload 5, 2) := by decide +kernel
theorem d6_28 : decode prog_20_method_6_code 28 = .ok (.iload 6, 2) := by decide +kernel
theorem d6_30 : decode prog_20_method_6_code 30 = .ok (.aaload, 1) := by decide +kernel
theorem d6_31 : decode prog_20_method_6_code 31 = .ok (.iload 7, 2) := by decide +kernel
theorem d6_33 : decode prog_20_method_6_code 33 = .ok (.dload_n 1, 1) := by decide +kernel
theorem d6_34 : decode prog_20_method_6_code 34 = .ok (.aload_n 0, 1) := by decide +kernel
theorem d6_35 : decode prog_20_method_6_code 35 = .ok (.getfield 9, 3) := by decide +kernel
theorem d6_38 : decode prog_20_method_6_code 38 = .ok (.iload 6, 2) := by decide +kernel
theorem d6_40 : decode prog_20_method_6_code 40 = .ok (.aaload, 1) := by decide +kernel
theorem d6_41 : decode prog_20_method_6_code 41 = .ok (.iload 7, 2) := by decide +kernel
theorem d6_43 : decode prog_20_method_6_code 43 = .ok (.daload, 1) := by decide +kernel
theorem d6_44 : decode prog_20_method_6_code 44 = .ok (.dmul, 1) := by decide +kernel
theorem d6_45 : decode prog_20_method_6_code 45 = .ok (.dload_n 3, 1) := by decide +kernel
theorem d6_46 : decode prog_20_method_6_code 46 = .ok (.aload_n 0, 1) := by decide +kernel
theorem d6_47 : decode prog_20_method_6_code 47 = .ok (.getfield 14, 3) := by decide +kernel
theorem d6_50 : decode prog_20_method_6_code 50 = .ok (.iload 6, 2) := by decide +kernel
theorem d6_52 : decode prog_20_method_6_code 52 = .ok (.aaload, 1) := by decide +kernel
theorem d6_53 : decode prog_20_method_6_code 53 = .ok (.iload 7, 2) := by decide +kernel
theorem d6_55 : decode prog_20_method_6_code 55 = .ok (.daload, 1) := by decide +kernel
theorem d6_56 : decode prog_20_method_6_code 56 = .ok (.dmul, 1) := by decide +kernel
theorem d6_57 : decode prog_20_method_6_code 57 = .ok (.dadd, 1) := by decide +kernel
theorem d6_58 : decode prog_20_method_6_code 58 = .ok (.dastore, 1) := by decide +kernel
theorem d6_59 : decode prog_20_method_6_code 59 = .ok (.iinc 7 1, 3) := by decide +kernel
theorem d6_62 : decode prog_20_method_6_code 62 = .ok (.goto (-42), 3) := by decide +kernel
theorem d6_65 : decode prog_20_method_6_code 65 = .ok (.iinc 6 1, 3) := by decide +kernel
theorem d6_68 : decode prog_20_method_6_code 68 = .ok (.goto (-57), 3) := by decide +kernel
theorem d6_71 : decode prog_20_method_6_code 71 = .ok (.aload 5, 2) := by decide +kernel
theorem d6_73 : decode prog_20_method_6_code 73 = .ok (.areturn, 1) := by decide +kernel
theorem d7_0 : decode method_3_code 0 = .ok (.lload_n 3, 1) := by decide +kernel
theorem d7_1 : decode method_3_code 1 = .ok (.aload_n 1, 1) := by decide +kernel
theorem d7_2 : decode method_3_code 2 = .ok (.iload 9, 2) := by decide +kernel
theorem d7_4 : decode method_3_code 4 = .ok (.laload, 1) := by decide +kernel
theorem d7_5 : decode method_3_code 5 = .ok (.lmul, 1) := by decide +kernel
theorem d7_6 : decode method_3_code 6 = .ok (.aload_n 1, 1) := by decide +kernel
theorem d7_7 : decode method_3_code 7 = .ok (.iload 10, 2) := by decide +kernel
theorem d7_9 : decode method_3_code 9 = .ok (.laload, 1) := by decide +kernel
theorem d7_10 : decode method_3_code 10 = .ok (.lmul, 1) := by decide +kernel
theorem d7_11 : decode method_3_code 11 = .ok (.iload 8, 2) := by decide +kernel
theorem d7_13 : decode method_3_code 13 = .ok (.i2l, 1) := by decide +kernel
theorem d7_14 : decode method_3_code 14 = .ok (.lmul, 1) := by decide +kernel
theorem d7_15 : decode method_3_code 15 = .ok (.lload 5, 2) := by decide +kernel
theorem d7_17 : decode method_3_code 17 = .ok (.aload_n 2, 1) := by decide +kernel
theorem d7_18 : decode method_3_code 18 = .ok (.iload 9, 2) := by decide +kernel
theorem d7_20 : decode method_3_code 20 = .ok (.laload, 1) := by decide +kernel
theorem d7_21 : decode method_3_code 21 = .ok (.lmul, 1) := by decide +kernel
theorem d7_22 : decode method_3_code 22 = .ok (.aload_n 2, 1) := by decide +kernel
theorem d7_23 : decode method_3_code 23 = .ok (.iload 10, 2) := by decide +kernel
theorem d7_25 : decode method_3_code 25 = .ok (.laload, 1) := by decide +kernel
theorem d7_26 : decode method_3_code 26 = .ok (.lmul, 1) := by decide +kernel
theorem d7_27 : decode method_3_code 27 = .ok (.iload 7, 2) := by decide +kernel
theorem d7_29 : decode method_3_code 29 = .ok (.i2l, 1) := by decide +kernel
theorem d7_30 : decode method_3_code 30 = .ok (.lmul, 1) := by decide +kernel
theorem d7_31 : decode method_3_code 31 = .ok (.ladd, 1) := by decide +kernel
theorem d7_32 : decode method_3_code 32 = .ok (.lstore 11, 2) := by decide +kernel
theorem d7_34 : decode method_3_code 34 = .ok (.aload_n 0, 1) := by decide +kernel
theorem d7_35 : decode method_3_code 35 = .ok (.iload 9, 2) := by decide +kernel
theorem d7_37 : decode method_3_code 37 = .ok (.aaload, 1) := by decide +kernel
theorem d7_38 : decode method_3_code 38 = .ok (.iload 10, 2) := by decide +kernel
theorem d7_40 : decode method_3_code 40 = .ok (.daload, 1) := by decide +kernel
theorem d7_41 : decode method_3_code 41 = .ok (.iload 7, 2) := by decide +kernel
theorem d7_43 : decode method_3_code 43 = .ok (.iload 8, 2) := by decide +kernel
theorem d7_45 : decode method_3_code 45 = .ok (.imul, 1) := by decide +kernel
theorem d7_46 : decode method_3_code 46 = .ok (.i2d, 1) := by decide +kernel
theorem d7_47 : decode method_3_code 47 = .ok (.dmul, 1) := by decide +kernel
theorem d7_48 : decode method_3_code 48 = .ok (.lload 11, 2) := by decide +kernel
theorem d7_50 : decode method_3_code 50 = .ok (.l2d, 1) := by decide +kernel
theorem d7_51 : decode method_3_code 51 = .ok (.dcmp .l, 1) := by decide +kernel
theorem d7_52 : decode method_3_code 52 = .ok (.ifCond .ne 7, 3) := by decide +kernel
theorem d7_55 : decode method_3_code 55 = .ok (.iconst 1, 1) := by decide +kernel
theorem d7_56 : decode method_3_code 56 = .ok (.goto 4, 3) := by decide +kernel
theorem d7_59 : decode method_3_code 59 = .ok (.iconst 0, 1) := by decide +kernel
theorem d7_60 : decode method_3_code 60 = .ok (.ireturn, 1) := by decide +kernel
theorem pd_0 : parseMethodDescriptor "([[D[DI)V" = some ⟨[(.array (.array .double)), (.array .double), .int], none⟩ := by decide +kernel
theorem pd_1 : parseMethodDescriptor "()V" = some ⟨[], none⟩ := by decide +kernel
theorem pd_2 : parseMethodDescriptor "([DI)V" = some ⟨[(.array .double), .int], none⟩ := by decide +kernel
theorem pd_3 : parseMethodDescriptor "(DD)[[D" = some ⟨[.double, .double], some (.array (.array .double))⟩ := by decide +kernel
theorem pd_4 : parseMethodDescriptor "([[D[J[JJJIIII)Z" = some ⟨[(.array (.array .double)), (.array .long), (.array .long), .long, .long, .int, .int, .int, .int], some .boolean⟩ := by decide +kernel


theorem own_mask3 (k : Int32) : k &&& (3 : Int32) = 0 ∨ k &&& (3 : Int32) = 1 ∨ k &&& (3 : Int32) = 2 ∨ k &&& (3 : Int32) = 3 := by
  have h := c_mask k 3 2 (by decide) (by decide)
  have e : ((2 ^ 2 : Nat) : Int) = 4 := by decide
  rw [e] at h
  simp only [← Int32.toInt_inj, h]
  have e0 : (0 : Int32).toInt = 0 := by decide
  have e1 : (1 : Int32).toInt = 1 := by decide
  have e2 : (2 : Int32).toInt = 2 := by decide
  have e3 : (3 : Int32).toInt = 3 := by decide
  omega

theorem ow_ladd {x y : Int64} (h : (x.toInt + y.toInt).natAbs < 9223372036854775808) : (x + y).toInt = x.toInt + y.toInt := FP.Core.int64_add (by omega) (by omega)
theorem ow_lsub {x y : Int64} (h : (x.toInt - y.toInt).natAbs < 9223372036854775808) : (x - y).toInt = x.toInt - y.toInt := FP.Core.int64_sub (by omega) (by omega)
theorem ow_lmul {x y : Int64} (h : (x.toInt * y.toInt).natAbs < 9223372036854775808) : (x * y).toInt = x.toInt * y.toInt := FP.Core.int64_mul (by omega) (by omega)

theorem own_d0 : Dy (0 : UInt64) 0 0 := ⟨⟨false, 0, -1074, by decide +kernel⟩, by decide +kernel⟩
theorem own_mb {a b : Int} {A B : Nat} (ha : a.natAbs ≤ A) (hb : b.natAbs ≤ B) : (a * b).natAbs ≤ A * B := by rw [Int.natAbs_mul]; exact Nat.mul_le_mul ha hb

theorem own_scale (k : Int32) : ∃ j : Nat, j ≤ 3 ∧ ((1 : Int32) <<< ((k &&& (3 : Int32)) &&& 31)).toInt = ((2 ^ j : Nat) : Int) := by
  rcases own_mask3 k with h | h | h | h <;> rw [h]
  · exact ⟨0, by decide, by decide⟩
  · exact ⟨1, by decide, by decide⟩
  · exact ⟨2, by decide, by decide⟩
  · exact ⟨3, by decide, by decide⟩
theorem own_p3 {j : Nat} (h : j ≤ 3) : 1 ≤ ((2 ^ j : Nat) : Int) ∧ ((2 ^ j : Nat) : Int) ≤ 8 := by
  have a := Nat.pow_le_pow_right (show 0 < 2 by decide) h
  have b := Nat.two_pow_pos j
  omega
theorem own_b8 {x : Int32} {n : Int64} (q : (x.toInt8.toInt32).toInt64 = n) : n.toInt.natAbs ≤ 128 := by
  rw [← q, Int32.toInt_toInt64, Int8.toInt_toInt32]
  have a := x.toInt8.le_toInt; have b := x.toInt8.toInt_lt
  omega
theorem own_s16 {x : Int32} {n : Int64} (q : (x.toInt16.toInt32).toInt64 = n) : n.toInt.natAbs ≤ 32768 := by
  rw [← q, Int32.toInt_toInt64, Int16.toInt_toInt32]
  have a := x.toInt16.le_toInt; have b := x.toInt16.toInt_lt
  omega
/-- a cell of the outer product -/
theorem own_el {a b : UInt64} {n m : Int} {r : Int32} {j : Nat} (A : Dy a n 0) (B : Dy b m 0) (hn : n.natAbs ≤ 128) (hm : m.natAbs ≤ 128) (er : r.toInt = ((2 ^ j : Nat) : Int)) (hj : j ≤ 3) :
    NoNaN64 (FP.dmul a b) ∧ NoNaN64 (FP.ddiv (FP.dmul a b) (FP.i2d r)) ∧ NoNaN64 (FP.dadd (0 : UInt64) (FP.ddiv (FP.dmul a b) (FP.i2d r))) ∧ Dy (FP.dadd (0 : UInt64) (FP.ddiv (FP.dmul a b) (FP.i2d r))) (n * m) j ∧ (n * m).natAbs ≤ 16384 := by
  have k := own_mb hn hm
  have p := own_p3 hj
  have M := A.mul B (by omega) (by omega)
  have R := (dy_i2d r).to er
  have Q : Dy (FP.ddiv (FP.dmul a b) (FP.i2d r)) (n * m) j := M.div R (by omega) (by rw [Nat.zero_add]; simp) (by omega) (by omega)
  have z : Dy (0 : UInt64) 0 j := by have q := own_d0.up j; rwa [Int.zero_mul, Nat.zero_add] at q
  have S := (z.add Q (by omega) (by omega)).to (Int.zero_add _)
  exact ⟨M.nn, Q.nn, S.nn, S, k⟩
theorem own_cell {u w a b : UInt64} {hh gg na nb : Int} {j i : Nat} (hj : j ≤ 3) (hi : i ≤ 3) (U : Dy u hh j) (W : Dy w gg i) (A : Dy a na 0) (B : Dy b nb 0) (h1 : hh.natAbs ≤ 16384) (h2 : gg.natAbs ≤ 16384) (h3 : na.natAbs ≤ 32768) (h4 : nb.natAbs ≤ 32768) :
    NoNaN64 (FP.dmul a u) ∧ NoNaN64 (FP.dmul b w) ∧ NoNaN64 (FP.dadd (FP.dmul a u) (FP.dmul b w)) ∧ Dy (FP.dadd (FP.dmul a u) (FP.dmul b w)) (na * hh * ((2 ^ i : Nat) : Int) + nb * gg * ((2 ^ j : Nat) : Int)) (j + i) ∧ (na * hh * ((2 ^ i : Nat) : Int) + nb * gg * ((2 ^ j : Nat) : Int)).natAbs ≤ 8589934592 := by
  have p := own_p3 hj; have p' := own_p3 hi
  have k1 := own_mb h3 h1
  have k2 := own_mb h4 h2
  have k3 := own_mb k1 (show (((2 ^ i : Nat) : Int)).natAbs ≤ 8 by omega)
  have k4 := own_mb k2 (show (((2 ^ j : Nat) : Int)).natAbs ≤ 8 by omega)
  have M1 := A.mul U (by omega) (by omega)
  have M2 := B.mul W (by omega) (by omega)
  have N1 := M1.up i; have N2 := M2.up j
  rw [Nat.zero_add] at N1 N2
  rw [Nat.add_comm i j] at N2
  have S := N1.add N2 (by omega) (by omega)
  exact ⟨M1.nn, M2.nn, S.nn, S, by omega⟩
theorem own_rs {r s : Int32} {j i : Nat} (hj : j ≤ 3) (hi : i ≤ 3) (er : r.toInt = ((2 ^ j : Nat) : Int)) (es : s.toInt = ((2 ^ i : Nat) : Int)) : (r * s).toInt = ((2 ^ (j + i) : Nat) : Int) ∧ ((2 ^ (j + i) : Nat) : Int) ≤ 64 ∧ 1 ≤ ((2 ^ (j + i) : Nat) : Int) := by
  have p := own_p3 hj; have p' := own_p3 hi
  have b := own_mb (show (((2 ^ j : Nat) : Int)).natAbs ≤ 8 by omega) (show (((2 ^ i : Nat) : Int)).natAbs ≤ 8 by omega)
  have cc := c_imul r s
  have g := rng32 (r * s)
  rw [er, es] at cc
  have t := Nat.two_pow_pos (j + i)
  rw [Nat.pow_add, Int.natCast_mul] at *
  have t' : 0 < ((2 ^ j : Nat) : Int) * ((2 ^ i : Nat) : Int) := Int.mul_pos (by omega) (by omega)
  refine ⟨?_, ?_, ?_⟩ <;> omega
theorem own_okp {x : UInt64} {r s : Int32} {N : Int} {j i : Nat} (hj : j ≤ 3) (hi : i ≤ 3) (er : r.toInt = ((2 ^ j : Nat) : Int)) (es : s.toInt = ((2 ^ i : Nat) : Int)) (C : Dy x N (j + i)) (hN : N.natAbs ≤ 8589934592) : Dy (FP.dmul x (FP.i2d (r * s))) (N * ((2 ^ (j + i) : Nat) : Int)) (j + i) := by
  obtain ⟨a, b, d⟩ := own_rs hj hi er es
  have R := (dy_i2d (r * s)).to a
  have k := own_mb hN (show (((2 ^ (j + i) : Nat) : Int)).natAbs ≤ 64 by omega)
  exact C.mul R (by omega) (by omega)
theorem own_exp {a h1 h2 b g1 g2 : Int64} {r s : Int32} {j i : Nat} (hj : j ≤ 3) (hi : i ≤ 3) (er : r.toInt = ((2 ^ j : Nat) : Int)) (es : s.toInt = ((2 ^ i : Nat) : Int)) (ha : a.toInt.natAbs ≤ 32768) (hb : b.toInt.natAbs ≤ 32768) (x1 : h1.toInt.natAbs ≤ 128) (x2 : h2.toInt.natAbs ≤ 128) (y1 : g1.toInt.natAbs ≤ 128) (y2 : g2.toInt.natAbs ≤ 128) :
    ((((a * h1) * h2) * (s.toInt64)) + (((b * g1) * g2) * (r.toInt64))).toInt = a.toInt * (h1.toInt * h2.toInt) * ((2 ^ i : Nat) : Int) + b.toInt * (g1.toInt * g2.toInt) * ((2 ^ j : Nat) : Int) := by
  have p := own_p3 hj; have p' := own_p3 hi
  have q1 := own_mb ha x1; have q2 := own_mb q1 x2; have q3 := own_mb q2 (show (((2 ^ i : Nat) : Int)).natAbs ≤ 8 by omega)
  have t1 := own_mb hb y1; have t2 := own_mb t1 y2; have t3 := own_mb t2 (show (((2 ^ j : Nat) : Int)).natAbs ≤ 8 by omega)
  have e1 : (a * h1).toInt = a.toInt * h1.toInt := ow_lmul (by omega)
  have e2 : ((a * h1) * h2).toInt = a.toInt * h1.toInt * h2.toInt := by rw [ow_lmul (by rw [e1]; omega), e1]
  have e3 : (((a * h1) * h2) * (s.toInt64)).toInt = a.toInt * h1.toInt * h2.toInt * ((2 ^ i : Nat) : Int) := by rw [ow_lmul (by rw [e2, c_i2l, es]; omega), e2, c_i2l, es]
  have f1 : (b * g1).toInt = b.toInt * g1.toInt := ow_lmul (by omega)
  have f2 : ((b * g1) * g2).toInt = b.toInt * g1.toInt * g2.toInt := by rw [ow_lmul (by rw [f1]; omega), f1]
  have f3 : (((b * g1) * g2) * (r.toInt64)).toInt = b.toInt * g1.toInt * g2.toInt * ((2 ^ j : Nat) : Int) := by rw [ow_lmul (by rw [f2, c_i2l, er]; omega), f2, c_i2l, er]
  rw [ow_ladd (by rw [e3, f3]; omega), e3, f3, Int.mul_assoc a.toInt, Int.mul_assoc b.toInt]
theorem own_okd {x : UInt64} {r s w : Int32} {N : Int} {E : Int64} {j i : Nat} (hj : j ≤ 3) (hi : i ≤ 3) (er : r.toInt = ((2 ^ j : Nat) : Int)) (es : s.toInt = ((2 ^ i : Nat) : Int)) (C : Dy x N (j + i)) (hN : N.natAbs ≤ 8589934592) (eE : E.toInt = N) (q : (if deq (FP.dmul x (FP.i2d (r * s))) (FP.l2d E) then (1 : Int32) else (0 : Int32)) = w) : ¬ (w = 0) := by
  have P := own_okp hj hi er es C hN
  have L := (dy_l2d (a := E) (by omega) (by omega)).up (j + i)
  rw [eE, Nat.zero_add] at L
  have d := (Dy.eq P L).mpr rfl
  rw [if_pos d] at q
  rw [← q]; decide

theorem ef1 (m : MethodId) (x0 : Addr) : entryFrame m #[(.ref x0)] 1 = mkF m 0 #[.val (.ref x0)] [] := by first | (simp [entryFrame, mkF, argsToLocals, Value.category]; done) | rfl
def Q1 (Z : State) (o0 : Addr) (u_velocity_o0 : Value) (u_voltage_o0 : Value) (h0 : Heap) (n0 : Nat) (v : Option Value) (h : Heap) (L : List Loc) : Prop := ∃ b2 b2x b2y b2z b4 b4x b4y b4z : Addr, v = none ∧ Fr n0 L ∧ Keep h0 h [o0] ∧ h0.size ≤ b2 ∧ h0.size ≤ b2x ∧ h0.size ≤ b2y ∧ h0.size ≤ b2z ∧ h0.size ≤ b4 ∧ h0.size ≤ b4x ∧ h0.size ≤ b4y ∧ h0.size ≤ b4z ∧ b2 ≠ b2x ∧ b2 ≠ b2y ∧ b2 ≠ b2z ∧ b2 ≠ b4 ∧ b2 ≠ b4x ∧ b2 ≠ b4y ∧ b2 ≠ b4z ∧ b2x ≠ b2y ∧ b2x ≠ b2z ∧ b2x ≠ b4 ∧ b2x ≠ b4x ∧ b2x ≠ b4y ∧ b2x ≠ b4z ∧ b2y ≠ b2z ∧ b2y ≠ b4 ∧ b2y ≠ b4x ∧ b2y ≠ b4y ∧ b2y ≠ b4z ∧ b2z ≠ b4 ∧ b2z ≠ b4x ∧ b2z ≠ b4y ∧ b2z ≠ b4z ∧ b4 ≠ b4x ∧ b4 ≠ b4y ∧ b4 ≠ b4z ∧ b4x ≠ b4y ∧ b4x ≠ b4z ∧ b4y ≠ b4z ∧ Exa Z h o0 "com/example/volts_to_velocity/voltstovelocity/ScoreNoise" ∧ Fld Z h o0 "com/example/volts_to_velocity/voltstovelocity/ScoreNoise" "velocity" "[[D" (.ref b2) ∧ Fld Z h o0 "com/example/volts_to_velocity/voltstovelocity/ScoreNoise" "voltage" "[[D" (.ref b4) ∧ Exa Z h b2 "[[D" ∧ Ary (ovA Z .double "[D") Z h b2 (.array .double) [(.ref b2x), (.ref b2y), (.ref b2z)] ∧ Exa Z h b2x "[D" ∧ Ary tr Z h b2x .double [(.double (0 : UInt64)), (.double (0 : UInt64)), (.double (0 : UInt64))] ∧ Exa Z h b2y "[D" ∧ Ary tr Z h b2y .double [(.double (0 : UInt64)), (.double (0 : UInt64)), (.double (0 : UInt64))] ∧ Exa Z h b2z "[D" ∧ Ary tr Z h b2z .double [(.double (0 : UInt64)), (.double (0 : UInt64)), (.double (0 : UInt64))] ∧ Exa Z h b4 "[[D" ∧ Ary (ovA Z .double "[D") Z h b4 (.array .double) [(.ref b4x), (.ref b4y), (.ref b4z)] ∧ Exa Z h b4x "[D" ∧ Ary tr Z h b4x .double [(.double (0 : UInt64)), (.double (0 : UInt64)), (.double (0 : UInt64))] ∧ Exa Z h b4y "[D" ∧ Ary tr Z h b4y .double [(.double (0 : UInt64)), (.double (0 : UInt64)), (.double (0 : UInt64))] ∧ Exa Z h b4z "[D" ∧ Ary tr Z h b4z .double [(.double (0 : UInt64)), (.double (0 : UInt64)), (.double (0 : UInt64))]
set_option maxRecDepth 65536 in
set_option maxHeartbeats 40000000 in
theorem rm1 (l : Launch) (Z : State) (a0 : Array Value) (hw : ∀ d ∈ tables_1, d.before a0 Z = true) (ws : List Jvm.Cond) (o0 : Addr) (u_velocity_o0 : Value) (u_voltage_o0 : Value) (h0 : Heap) (n0 : Nat) (Z0 : n0 ≤ h0.size) (F_o0_velocity : Fld Z h0 o0 "com/example/volts_to_velocity/voltstovelocity/ScoreNoise" "velocity" "[[D" u_velocity_o0) (F_o0_voltage : Fld Z h0 o0 "com/example/volts_to_velocity/voltstovelocity/ScoreNoise" "voltage" "[[D" u_voltage_o0) (E_o0 : Exa Z h0 o0 "com/example/volts_to_velocity/voltstovelocity/ScoreNoise") (g_o0 : n0 ≤ o0) :
    MetFree l (⟨"com/example/volts_to_velocity/voltstovelocity/ScoreNoise", "<init>", "()V"⟩ : MethodName) (head1 (Jvm.Cond.code (⟨"com/example/volts_to_velocity/voltstovelocity/ScoreNoise", "<init>", "()V"⟩ : MethodName) prog_20_method_1_code 1 none :: ws) ({ frames := 1, cells := 8, slots := 24, locals := 12 } : Room)) (fun a U => a = #[(.ref o0)] ∧ Z.Warmed39 U.vm ∧ U.heap = h0) (fun _ _ _ _ _ => True) (fun _ U o U' => ∃ v L, o = .returned v ∧ Q1 Z o0 u_velocity_o0 u_voltage_o0 h0 n0 v U'.heap L ∧ FrameEnd U o U' L ({ frames := 1, cells := 8, slots := 24, locals := 12 } : Room).cells ({ frames := 1, cells := 8, slots := 24, locals := 12 } : Room).slots) := by
  refine MetFree.of_bodySF (plainFor_of_name pn_com_example_volts_to_velocity_voltstovelocity_ScoreNoise) hisR ?_
  intro p e s m args below meth c s₁ Bd hml0 hP hK
  obtain ⟨rfl, hZ, hh⟩ := hP
  have hx := Bd.exec
  have hby := Bd.bytes
  have hml : c.maxLocals = 1 := hml0
  have hown : s.vm.findClass "com/example/volts_to_velocity/voltstovelocity/ScoreNoise" = some m.cls := findClass_of_methodNamed Bd.named
  have hnm := (name_of_methodNamed Bd.named Bd.method).1
  have X0 : Stand p l e ({ frames := 1, cells := 8, slots := 24, locals := 12 } : Room) s m #[(.ref o0)] below meth c s₁ [] 0 0 := Stand.of_body Bd
  have eH0 : s₁.heap = h0 := by rw [← hh, Bd.state]; rfl
  have N0 := Fr.nil n0
  have K0 := Keep.refl h0 [o0]
  show Gt p.tables e below (fun o U' => ∃ v L, o = .returned v ∧ Q1 Z o0 u_velocity_o0 u_voltage_o0 h0 n0 v U'.heap L ∧ FrameEnd s o U' L ({ frames := 1, cells := 8, slots := 24, locals := 12 } : Room).cells ({ frames := 1, cells := 8, slots := 24, locals := 12 } : Room).slots) _
  refine own_cast (ef1 m o0) ?_
  refine own_aloadN X0 hx hby rfl rfl d1_0 (pc' := 1) rfl ?_
  refine own_initO X0 hx hby hZ hown (hw _ (List.mem_of_getElem? (i := 8) rfl)) (hw _ (List.mem_of_getElem? (i := 9) rfl)) (hw _ (List.mem_of_getElem? (i := 10) rfl)) eH0 (by rw [hml]; rfl) d1_1 (pc' := 4) rfl (by decide) (W := 0) (Nat.le_of_eq rfl) (by decide) (fun T1 X1 eH1 => ?_)
  refine own_aloadN X1 hx hby rfl rfl d1_4 (pc' := 5) rfl ?_
  refine own_iconst X1 hx hby (v := (3 : Int32)) (by decide) d1_5 (pc' := 6) rfl ?_
  refine own_iconst X1 hx hby (v := (3 : Int32)) (by decide) d1_6 (pc' := 7) rfl ?_
  refine own_grid3 X1 hx hby hZ hown (ty := .double) (C := "[D") (ad := "[[D") (by decide) (by decide) (hw _ (List.mem_of_getElem? (i := 11) rfl)) (hw _ (List.mem_of_getElem? (i := 12) rfl)) (hw _ (List.mem_of_getElem? (i := 0) rfl)) eH1 d1_7 (pc' := 11) rfl (by decide) (by decide) (by decide) (by decide) (fun T2 h2 b2 b2x b2y b2z X2 eH2 E2 g2 lt1_2 lt2_2 lt3_2 E_b2 V_b2 E_b2x E_b2y E_b2z V_b2x V_b2y V_b2z => ?_)
  have g_b2 : n0 ≤ b2 := g2 ▸ Z0
  have sz_b2 : h0.size ≤ b2 := g2 ▸ K0.1
  have ne_o0_b2 : o0 ≠ b2 := Nat.ne_of_lt (g2 ▸ E_o0.lt)
  have g_b2x : n0 ≤ b2x := Nat.le_trans g_b2 (Nat.le_of_lt lt1_2)
  have sz_b2x : h0.size ≤ b2x := Nat.le_trans sz_b2 (Nat.le_of_lt lt1_2)
  have ne_b2_b2x : b2 ≠ b2x := Nat.ne_of_lt lt1_2
  have ne_o0_b2x : o0 ≠ b2x := Nat.ne_of_lt (Nat.lt_trans (g2 ▸ E_o0.lt) lt1_2)
  have g_b2y : n0 ≤ b2y := Nat.le_trans g_b2 (Nat.le_of_lt (Nat.lt_trans lt1_2 lt2_2))
  have sz_b2y : h0.size ≤ b2y := Nat.le_trans sz_b2 (Nat.le_of_lt (Nat.lt_trans lt1_2 lt2_2))
  have ne_b2_b2y : b2 ≠ b2y := Nat.ne_of_lt (Nat.lt_trans lt1_2 lt2_2)
  have ne_o0_b2y : o0 ≠ b2y := Nat.ne_of_lt (Nat.lt_trans (g2 ▸ E_o0.lt) (Nat.lt_trans lt1_2 lt2_2))
  have g_b2z : n0 ≤ b2z := Nat.le_trans g_b2 (Nat.le_of_lt (Nat.lt_trans (Nat.lt_trans lt1_2 lt2_2) lt3_2))
  have sz_b2z : h0.size ≤ b2z := Nat.le_trans sz_b2 (Nat.le_of_lt (Nat.lt_trans (Nat.lt_trans lt1_2 lt2_2) lt3_2))
  have ne_b2_b2z : b2 ≠ b2z := Nat.ne_of_lt (Nat.lt_trans (Nat.lt_trans lt1_2 lt2_2) lt3_2)
  have ne_o0_b2z : o0 ≠ b2z := Nat.ne_of_lt (Nat.lt_trans (g2 ▸ E_o0.lt) (Nat.lt_trans (Nat.lt_trans lt1_2 lt2_2) lt3_2))
  have ne_b2x_b2y := Nat.ne_of_lt lt2_2
  have ne_b2y_b2z := Nat.ne_of_lt lt3_2
  have ne_b2x_b2z := Nat.ne_of_lt (Nat.lt_trans lt2_2 lt3_2)
  replace E_o0 := E_o0.ext E2
  replace F_o0_velocity := F_o0_velocity.ext E2
  replace F_o0_voltage := F_o0_voltage.ext E2
  replace K0 := K0.ext E2
  replace Z0 := Nat.le_trans Z0 E2.1
  have V_b2x : Ary tr Z h2 b2x .double [(.double (0 : UInt64)), (.double (0 : UInt64)), (.double (0 : UInt64))] := V_b2x
  have V_b2y : Ary tr Z h2 b2y .double [(.double (0 : UInt64)), (.double (0 : UInt64)), (.double (0 : UInt64))] := V_b2y
  have V_b2z : Ary tr Z h2 b2z .double [(.double (0 : UInt64)), (.double (0 : UInt64)), (.double (0 : UInt64))] := V_b2z
  refine own_putF X2 hx hby hZ hown (host := "") (Or.inl (hw _ (List.mem_of_getElem? (i := 13) rfl))) Via.refl eH2 F_o0_velocity E_o0 (Or.inr ⟨(hw _ (List.mem_of_getElem? (i := 14) rfl)), rfl, hnm⟩) (hw _ (List.mem_of_getElem? (i := 3) rfl)) (ty := (.array (.array .double))) (by decide) rfl rfl d1_11 (pc' := 14) rfl (fun T3 h3 X3 eH3 W3 => ?_)
  replace E_o0 := E_o0.wr W3
  replace F_o0_velocity := F_o0_velocity.same W3
  replace F_o0_voltage := F_o0_voltage.other W3 (Or.inr (slot_ne (Or.inr (hw _ (List.mem_of_getElem? (i := 16) rfl))) (Or.inr (hw _ (List.mem_of_getElem? (i := 14) rfl))) (by decide) (t := (.array (.array .double))) (t' := (.array (.array .double))) (by decide) (by decide)))
  replace E_b2x := E_b2x.wr W3
  replace V_b2x := V_b2x.other W3 (Ne.symm ne_o0_b2x)
  replace E_b2y := E_b2y.wr W3
  replace V_b2y := V_b2y.other W3 (Ne.symm ne_o0_b2y)
  replace E_b2z := E_b2z.wr W3
  replace V_b2z := V_b2z.other W3 (Ne.symm ne_o0_b2z)
  replace E_b2 := E_b2.wr W3
  replace V_b2 := V_b2.other W3 (Ne.symm ne_o0_b2)
  have N3 := Fr.snoc X3 N0 g_o0
  replace K0 := K0.wr W3 (Or.inl (by simp))
  replace Z0 := Nat.le_trans Z0 (Nat.le_of_eq W3.size.symm)
  refine own_aloadN X3 hx hby rfl rfl d1_14 (pc' := 15) rfl ?_
  refine own_iconst X3 hx hby (v := (3 : Int32)) (by decide) d1_15 (pc' := 16) rfl ?_
  refine own_iconst X3 hx hby (v := (3 : Int32)) (by decide) d1_16 (pc' := 17) rfl ?_
  refine own_grid3 X3 hx hby hZ hown (ty := .double) (C := "[D") (ad := "[[D") (by decide) (by decide) (hw _ (List.mem_of_getElem? (i := 11) rfl)) (hw _ (List.mem_of_getElem? (i := 12) rfl)) (hw _ (List.mem_of_getElem? (i := 0) rfl)) eH3 d1_17 (pc' := 21) rfl (by decide) (by decide) (by decide) (by decide) (fun T4 h4 b4 b4x b4y b4z X4 eH4 E4 g4 lt1_4 lt2_4 lt3_4 E_b4 V_b4 E_b4x E_b4y E_b4z V_b4x V_b4y V_b4z => ?_)
  have g_b4 : n0 ≤ b4 := g4 ▸ Z0
  have sz_b4 : h0.size ≤ b4 := g4 ▸ K0.1
  have ne_o0_b4 : o0 ≠ b4 := Nat.ne_of_lt (g4 ▸ E_o0.lt)
  have ne_b2x_b4 : b2x ≠ b4 := Nat.ne_of_lt (g4 ▸ E_b2x.lt)
  have ne_b2y_b4 : b2y ≠ b4 := Nat.ne_of_lt (g4 ▸ E_b2y.lt)
  have ne_b2z_b4 : b2z ≠ b4 := Nat.ne_of_lt (g4 ▸ E_b2z.lt)
  have ne_b2_b4 : b2 ≠ b4 := Nat.ne_of_lt (g4 ▸ E_b2.lt)
  have g_b4x : n0 ≤ b4x := Nat.le_trans g_b4 (Nat.le_of_lt lt1_4)
  have sz_b4x : h0.size ≤ b4x := Nat.le_trans sz_b4 (Nat.le_of_lt lt1_4)
  have ne_b4_b4x : b4 ≠ b4x := Nat.ne_of_lt lt1_4
  have ne_o0_b4x : o0 ≠ b4x := Nat.ne_of_lt (Nat.lt_trans (g4 ▸ E_o0.lt) lt1_4)
  have ne_b2x_b4x : b2x ≠ b4x := Nat.ne_of_lt (Nat.lt_trans (g4 ▸ E_b2x.lt) lt1_4)
  have ne_b2y_b4x : b2y ≠ b4x := Nat.ne_of_lt (Nat.lt_trans (g4 ▸ E_b2y.lt) lt1_4)
  have ne_b2z_b4x : b2z ≠ b4x := Nat.ne_of_lt (Nat.lt_trans (g4 ▸ E_b2z.lt) lt1_4)
  have ne_b2_b4x : b2 ≠ b4x := Nat.ne_of_lt (Nat.lt_trans (g4 ▸ E_b2.lt) lt1_4)
  have g_b4y : n0 ≤ b4y := Nat.le_trans g_b4 (Nat.le_of_lt (Nat.lt_trans lt1_4 lt2_4))
  have sz_b4y : h0.size ≤ b4y := Nat.le_trans sz_b4 (Nat.le_of_lt (Nat.lt_trans lt1_4 lt2_4))
  have ne_b4_b4y : b4 ≠ b4y := Nat.ne_of_lt (Nat.lt_trans lt1_4 lt2_4)
  have ne_o0_b4y : o0 ≠ b4y := Nat.ne_of_lt (Nat.lt_trans (g4 ▸ E_o0.lt) (Nat.lt_trans lt1_4 lt2_4))
  have ne_b2x_b4y : b2x ≠ b4y := Nat.ne_of_lt (Nat.lt_trans (g4 ▸ E_b2x.lt) (Nat.lt_trans lt1_4 lt2_4))
  have ne_b2y_b4y : b2y ≠ b4y := Nat.ne_of_lt (Nat.lt_trans (g4 ▸ E_b2y.lt) (Nat.lt_trans lt1_4 lt2_4))
  have ne_b2z_b4y : b2z ≠ b4y := Nat.ne_of_lt (Nat.lt_trans (g4 ▸ E_b2z.lt) (Nat.lt_trans lt1_4 lt2_4))
  have ne_b2_b4y : b2 ≠ b4y := Nat.ne_of_lt (Nat.lt_trans (g4 ▸ E_b2.lt) (Nat.lt_trans lt1_4 lt2_4))
  have g_b4z : n0 ≤ b4z := Nat.le_trans g_b4 (Nat.le_of_lt (Nat.lt_trans (Nat.lt_trans lt1_4 lt2_4) lt3_4))
  have sz_b4z : h0.size ≤ b4z := Nat.le_trans sz_b4 (Nat.le_of_lt (Nat.lt_trans (Nat.lt_trans lt1_4 lt2_4) lt3_4))
  have ne_b4_b4z : b4 ≠ b4z := Nat.ne_of_lt (Nat.lt_trans (Nat.lt_trans lt1_4 lt2_4) lt3_4)
  have ne_o0_b4z : o0 ≠ b4z := Nat.ne_of_lt (Nat.lt_trans (g4 ▸ E_o0.lt) (Nat.lt_trans (Nat.lt_trans lt1_4 lt2_4) lt3_4))
  have ne_b2x_b4z : b2x ≠ b4z := Nat.ne_of_lt (Nat.lt_trans (g4 ▸ E_b2x.lt) (Nat.lt_trans (Nat.lt_trans lt1_4 lt2_4) lt3_4))
  have ne_b2y_b4z : b2y ≠ b4z := Nat.ne_of_lt (Nat.lt_trans (g4 ▸ E_b2y.lt) (Nat.lt_trans (Nat.lt_trans lt1_4 lt2_4) lt3_4))
  have ne_b2z_b4z : b2z ≠ b4z := Nat.ne_of_lt (Nat.lt_trans (g4 ▸ E_b2z.lt) (Nat.lt_trans (Nat.lt_trans lt1_4 lt2_4) lt3_4))
  have ne_b2_b4z : b2 ≠ b4z := Nat.ne_of_lt (Nat.lt_trans (g4 ▸ E_b2.lt) (Nat.lt_trans (Nat.lt_trans lt1_4 lt2_4) lt3_4))
  have ne_b4x_b4y := Nat.ne_of_lt lt2_4
  have ne_b4y_b4z := Nat.ne_of_lt lt3_4
  have ne_b4x_b4z := Nat.ne_of_lt (Nat.lt_trans lt2_4 lt3_4)
  replace E_o0 := E_o0.ext E4
  replace F_o0_velocity := F_o0_velocity.ext E4
  replace F_o0_voltage := F_o0_voltage.ext E4
  replace E_b2x := E_b2x.ext E4
  replace V_b2x := V_b2x.ext E4
  replace E_b2y := E_b2y.ext E4
  replace V_b2y := V_b2y.ext E4
  replace E_b2z := E_b2z.ext E4
  replace V_b2z := V_b2z.ext E4
  replace E_b2 := E_b2.ext E4
  replace V_b2 := V_b2.ext E4
  replace K0 := K0.ext E4
  replace Z0 := Nat.le_trans Z0 E4.1
  have V_b4x : Ary tr Z h4 b4x .double [(.double (0 : UInt64)), (.double (0 : UInt64)), (.double (0 : UInt64))] := V_b4x
  have V_b4y : Ary tr Z h4 b4y .double [(.double (0 : UInt64)), (.double (0 : UInt64)), (.double (0 : UInt64))] := V_b4y
  have V_b4z : Ary tr Z h4 b4z .double [(.double (0 : UInt64)), (.double (0 : UInt64)), (.double (0 : UInt64))] := V_b4z
  refine own_putF X4 hx hby hZ hown (host := "") (Or.inl (hw _ (List.mem_of_getElem? (i := 15) rfl))) Via.refl eH4 F_o0_voltage E_o0 (Or.inr ⟨(hw _ (List.mem_of_getElem? (i := 16) rfl)), rfl, hnm⟩) (hw _ (List.mem_of_getElem? (i := 3) rfl)) (ty := (.array (.array .double))) (by decide) rfl rfl d1_21 (pc' := 24) rfl (fun T5 h5 X5 eH5 W5 => ?_)
  replace E_o0 := E_o0.wr W5
  replace F_o0_velocity := F_o0_velocity.other W5 (Or.inr (slot_ne (Or.inr (hw _ (List.mem_of_getElem? (i := 14) rfl))) (Or.inr (hw _ (List.mem_of_getElem? (i := 16) rfl))) (by decide) (t := (.array (.array .double))) (t' := (.array (.array .double))) (by decide) (by decide)))
  replace F_o0_voltage := F_o0_voltage.same W5
  replace E_b2x := E_b2x.wr W5
  replace V_b2x := V_b2x.other W5 (Ne.symm ne_o0_b2x)
  replace E_b2y := E_b2y.wr W5
  replace V_b2y := V_b2y.other W5 (Ne.symm ne_o0_b2y)
  replace E_b2z := E_b2z.wr W5
  replace V_b2z := V_b2z.other W5 (Ne.symm ne_o0_b2z)
  replace E_b2 := E_b2.wr W5
  replace V_b2 := V_b2.other W5 (Ne.symm ne_o0_b2)
  replace E_b4x := E_b4x.wr W5
  replace V_b4x := V_b4x.other W5 (Ne.symm ne_o0_b4x)
  replace E_b4y := E_b4y.wr W5
  replace V_b4y := V_b4y.other W5 (Ne.symm ne_o0_b4y)
  replace E_b4z := E_b4z.wr W5
  replace V_b4z := V_b4z.other W5 (Ne.symm ne_o0_b4z)
  replace E_b4 := E_b4.wr W5
  replace V_b4 := V_b4.other W5 (Ne.symm ne_o0_b4)
  have N5 := Fr.snoc X5 N3 g_o0
  replace K0 := K0.wr W5 (Or.inl (by simp))
  replace Z0 := Nat.le_trans Z0 (Nat.le_of_eq W5.size.symm)
  exact own_retV X5 hx hby Bd.notSynchronized Bd.returns d1_24 (by decide) (by decide) eH5 ⟨b2, b2x, b2y, b2z, b4, b4x, b4y, b4z, rfl, N5, K0, sz_b2, sz_b2x, sz_b2y, sz_b2z, sz_b4, sz_b4x, sz_b4y, sz_b4z, ne_b2_b2x, ne_b2_b2y, ne_b2_b2z, ne_b2_b4, ne_b2_b4x, ne_b2_b4y, ne_b2_b4z, ne_b2x_b2y, ne_b2x_b2z, ne_b2x_b4, ne_b2x_b4x, ne_b2x_b4y, ne_b2x_b4z, ne_b2y_b2z, ne_b2y_b4, ne_b2y_b4x, ne_b2y_b4y, ne_b2y_b4z, ne_b2z_b4, ne_b2z_b4x, ne_b2z_b4y, ne_b2z_b4z, ne_b4_b4x, ne_b4_b4y, ne_b4_b4z, ne_b4x_b4y, ne_b4x_b4z, ne_b4y_b4z, E_o0, F_o0_velocity, F_o0_voltage, E_b2, V_b2, E_b2x, V_b2x, E_b2y, V_b2y, E_b2z, V_b2z, E_b4, V_b4, E_b4x, V_b4x, E_b4y, V_b4y, E_b4z, V_b4z⟩
theorem ef4 (m : MethodId) (x0 : Addr) (x1 : Addr) (x2 : Int32) : entryFrame m #[(.ref x0), (.ref x1), (.int x2)] 5 = mkF m 0 #[.val (.ref x0), .val (.ref x1), .val (.int x2), .unset, .unset] [] := by first | (simp [entryFrame, mkF, argsToLocals, Value.category]; done) | rfl
def Q4 (Z : State) (o0 : Addr) (o1 : Addr) (p2 : Int32) (t0 : Addr) (t1 : Addr) (t2 : Addr) (x00 : UInt64) (x01 : UInt64) (x02 : UInt64) (x10 : UInt64) (x11 : UInt64) (x12 : UInt64) (x20 : UInt64) (x21 : UInt64) (x22 : UInt64) (k0 : UInt64) (k1 : UInt64) (k2 : UInt64) (h0 : Heap) (n0 : Nat) (v : Option Value) (h : Heap) (L : List Loc) : Prop := v = none ∧ Fr n0 L ∧ Keep h0 h [t0, t1, t2] ∧ Ary tr Z h t0 .double [(.double (FP.dadd x00 (FP.ddiv (FP.dmul k0 k0) (FP.i2d p2)))), (.double (FP.dadd x01 (FP.ddiv (FP.dmul k0 k1) (FP.i2d p2)))), (.double (FP.dadd x02 (FP.ddiv (FP.dmul k0 k2) (FP.i2d p2))))] ∧ Ary tr Z h t1 .double [(.double (FP.dadd x10 (FP.ddiv (FP.dmul k1 k0) (FP.i2d p2)))), (.double (FP.dadd x11 (FP.ddiv (FP.dmul k1 k1) (FP.i2d p2)))), (.double (FP.dadd x12 (FP.ddiv (FP.dmul k1 k2) (FP.i2d p2))))] ∧ Ary tr Z h t2 .double [(.double (FP.dadd x20 (FP.ddiv (FP.dmul k2 k0) (FP.i2d p2)))), (.double (FP.dadd x21 (FP.ddiv (FP.dmul k2 k1) (FP.i2d p2)))), (.double (FP.dadd x22 (FP.ddiv (FP.dmul k2 k2) (FP.i2d p2))))]
set_option maxRecDepth 65536 in
set_option maxHeartbeats 40000000 in
theorem rm4 (l : Launch) (Z : State) (a0 : Array Value) (hw : ∀ d ∈ tables_1, d.before a0 Z = true) (ws : List Jvm.Cond) (o0 : Addr) (o1 : Addr) (p2 : Int32) (t0 : Addr) (t1 : Addr) (t2 : Addr) (x00 : UInt64) (x01 : UInt64) (x02 : UInt64) (x10 : UInt64) (x11 : UInt64) (x12 : UInt64) (x20 : UInt64) (x21 : UInt64) (x22 : UInt64) (k0 : UInt64) (k1 : UInt64) (k2 : UInt64) (h0 : Heap) (n0 : Nat) (Z0 : n0 ≤ h0.size) (V_o0 : Ary (ovA Z .double "[D") Z h0 o0 (.array .double) [(.ref t0), (.ref t1), (.ref t2)]) (V_t0 : Ary tr Z h0 t0 .double [(.double x00), (.double x01), (.double x02)]) (V_t1 : Ary tr Z h0 t1 .double [(.double x10), (.double x11), (.double x12)]) (V_t2 : Ary tr Z h0 t2 .double [(.double x20), (.double x21), (.double x22)]) (V_o1 : Ary tr Z h0 o1 .double [(.double k0), (.double k1), (.double k2)]) (hn30_1 : (NoNaN64 (FP.dmul k0 k0))) (hn33_1 : (NoNaN64 (FP.ddiv (FP.dmul k0 k0) (FP.i2d p2)))) (hn34_1 : (NoNaN64 (FP.dadd x00 (FP.ddiv (FP.dmul k0 k0) (FP.i2d p2))))) (g_t0 : n0 ≤ t0) (ne_o0_t0 : o0 ≠ t0) (ne_o1_t0 : o1 ≠ t0) (ne_t1_t0 : t1 ≠ t0) (ne_t2_t0 : t2 ≠ t0) (hn30_2 : (NoNaN64 (FP.dmul k0 k1))) (hn33_2 : (NoNaN64 (FP.ddiv (FP.dmul k0 k1) (FP.i2d p2)))) (hn34_2 : (NoNaN64 (FP.dadd x01 (FP.ddiv (FP.dmul k0 k1) (FP.i2d p2))))) (hn30_3 : (NoNaN64 (FP.dmul k0 k2))) (hn33_3 : (NoNaN64 (FP.ddiv (FP.dmul k0 k2) (FP.i2d p2)))) (hn34_3 : (NoNaN64 (FP.dadd x02 (FP.ddiv (FP.dmul k0 k2) (FP.i2d p2))))) (hn30_4 : (NoNaN64 (FP.dmul k1 k0))) (hn33_4 : (NoNaN64 (FP.ddiv (FP.dmul k1 k0) (FP.i2d p2)))) (hn34_4 : (NoNaN64 (FP.dadd x10 (FP.ddiv (FP.dmul k1 k0) (FP.i2d p2))))) (g_t1 : n0 ≤ t1) (ne_o0_t1 : o0 ≠ t1) (ne_o1_t1 : o1 ≠ t1) (ne_t2_t1 : t2 ≠ t1) (hn30_5 : (NoNaN64 (FP.dmul k1 k1))) (hn33_5 : (NoNaN64 (FP.ddiv (FP.dmul k1 k1) (FP.i2d p2)))) (hn34_5 : (NoNaN64 (FP.dadd x11 (FP.ddiv (FP.dmul k1 k1) (FP.i2d p2))))) (hn30_6 : (NoNaN64 (FP.dmul k1 k2))) (hn33_6 : (NoNaN64 (FP.ddiv (FP.dmul k1 k2) (FP.i2d p2)))) (hn34_6 : (NoNaN64 (FP.dadd x12 (FP.ddiv (FP.dmul k1 k2) (FP.i2d p2))))) (hn30_7 : (NoNaN64 (FP.dmul k2 k0))) (hn33_7 : (NoNaN64 (FP.ddiv (FP.dmul k2 k0) (FP.i2d p2)))) (hn34_7 : (NoNaN64 (FP.dadd x20 (FP.ddiv (FP.dmul k2 k0) (FP.i2d p2))))) (g_t2 : n0 ≤ t2) (ne_o0_t2 : o0 ≠ t2) (ne_o1_t2 : o1 ≠ t2) (hn30_8 : (NoNaN64 (FP.dmul k2 k1))) (hn33_8 : (NoNaN64 (FP.ddiv (FP.dmul k2 k1) (FP.i2d p2)))) (hn34_8 : (NoNaN64 (FP.dadd x21 (FP.ddiv (FP.dmul k2 k1) (FP.i2d p2))))) (hn30_9 : (NoNaN64 (FP.dmul k2 k2))) (hn33_9 : (NoNaN64 (FP.ddiv (FP.dmul k2 k2) (FP.i2d p2)))) (hn34_9 : (NoNaN64 (FP.dadd x22 (FP.ddiv (FP.dmul k2 k2) (FP.i2d p2))))) :
    MetFree l (⟨"com/example/volts_to_velocity/voltstovelocity/ScoreNoise", "addOuter", "([[D[DI)V"⟩ : MethodName) (head1 (Jvm.Cond.code (⟨"com/example/volts_to_velocity/voltstovelocity/ScoreNoise", "addOuter", "([[D[DI)V"⟩ : MethodName) prog_20_method_7_code 5 none :: ws) ({ frames := 0, cells := 0, slots := 0, locals := 0 } : Room)) (fun a U => a = #[(.ref o0), (.ref o1), (.int p2)] ∧ Z.Warmed39 U.vm ∧ U.heap = h0) (fun _ _ _ _ _ => True) (fun _ U o U' => ∃ v L, o = .returned v ∧ Q4 Z o0 o1 p2 t0 t1 t2 x00 x01 x02 x10 x11 x12 x20 x21 x22 k0 k1 k2 h0 n0 v U'.heap L ∧ FrameEnd U o U' L ({ frames := 0, cells := 0, slots := 0, locals := 0 } : Room).cells ({ frames := 0, cells := 0, slots := 0, locals := 0 } : Room).slots) := by
  refine MetFree.of_bodySF (plainFor_of_name pn_com_example_volts_to_velocity_voltstovelocity_ScoreNoise) hisR ?_
  intro p e s m args below meth c s₁ Bd hml0 hP hK
  obtain ⟨rfl, hZ, hh⟩ := hP
  have hx := Bd.exec
  have hby := Bd.bytes
  have hml : c.maxLocals = 5 := hml0
  have hown : s.vm.findClass "com/example/volts_to_velocity/voltstovelocity/ScoreNoise" = some m.cls := findClass_of_methodNamed Bd.named
  have hnm := (name_of_methodNamed Bd.named Bd.method).1
  have X0 : Stand p l e ({ frames := 0, cells := 0, slots := 0, locals := 0 } : Room) s m #[(.ref o0), (.ref o1), (.int p2)] below meth c s₁ [] 0 0 := Stand.of_body Bd
  have eH0 : s₁.heap = h0 := by rw [← hh, Bd.state]; rfl
  have N0 := Fr.nil n0
  have K0 := Keep.refl h0 [t0, t1, t2]
  show Gt p.tables e below (fun o U' => ∃ v L, o = .returned v ∧ Q4 Z o0 o1 p2 t0 t1 t2 x00 x01 x02 x10 x11 x12 x20 x21 x22 k0 k1 k2 h0 n0 v U'.heap L ∧ FrameEnd s o U' L ({ frames := 0, cells := 0, slots := 0, locals := 0 } : Room).cells ({ frames := 0, cells := 0, slots := 0, locals := 0 } : Room).slots) _
  refine own_cast (ef4 m o0 o1 p2) ?_
  refine own_iconst X0 hx hby (v := (0 : Int32)) (by decide) d4_0 (pc' := 1) rfl ?_
  refine own_istoreN X0 hx hby (L' := #[.val (.ref o0), .val (.ref o1), .val (.int p2), .val (.int (0 : Int32)), .unset]) rfl d4_1 (pc' := 2) rfl ?_
  refine own_iloadN X0 hx hby rfl d4_2 (pc' := 3) rfl ?_
  refine own_iconst X0 hx hby (v := (3 : Int32)) (by decide) d4_3 (pc' := 4) rfl ?_
  refine own_icF X0 hx hby d4_4 (by decide) (pc' := 7) rfl ?_
  refine own_iconst X0 hx hby (v := (0 : Int32)) (by decide) d4_7 (pc' := 8) rfl ?_
  refine own_istore X0 hx hby (L' := #[.val (.ref o0), .val (.ref o1), .val (.int p2), .val (.int (0 : Int32)), .val (.int (0 : Int32))]) rfl d4_8 (pc' := 10) rfl ?_
  refine own_iload X0 hx hby rfl d4_10 (pc' := 12) rfl ?_
  refine own_iconst X0 hx hby (v := (3 : Int32)) (by decide) d4_12 (pc' := 13) rfl ?_
  refine own_icF X0 hx hby d4_13 (by decide) (pc' := 16) rfl ?_
  refine own_aloadN X0 hx hby rfl rfl d4_16 (pc' := 17) rfl ?_
  refine own_iloadN X0 hx hby rfl d4_17 (pc' := 18) rfl ?_
  refine own_aaload X0 hx hby hZ eH0 V_o0 rfl (by decide) (v := (.ref t0)) rfl d4_18 (pc' := 19) rfl ?_
  refine own_iload X0 hx hby rfl d4_19 (pc' := 21) rfl ?_
  refine own_dup2 X0 hx hby rfl rfl d4_21 (pc' := 22) rfl ?_
  refine own_daload X0 hx hby hZ eH0 V_t0 (by decide) (v := (.double x00)) rfl d4_22 (pc' := 23) rfl ?_
  refine own_aloadN X0 hx hby rfl rfl d4_23 (pc' := 24) rfl ?_
  refine own_iloadN X0 hx hby rfl d4_24 (pc' := 25) rfl ?_
  refine own_daload X0 hx hby hZ eH0 V_o1 (by decide) (v := (.double k0)) rfl d4_25 (pc' := 26) rfl ?_
  refine own_aloadN X0 hx hby rfl rfl d4_26 (pc' := 27) rfl ?_
  refine own_iload X0 hx hby rfl d4_27 (pc' := 29) rfl ?_
  refine own_daload X0 hx hby hZ eH0 V_o1 (by decide) (v := (.double k0)) rfl d4_29 (pc' := 30) rfl ?_
  refine own_dmul X0 hx hby hn30_1 rfl d4_30 (pc' := 31) rfl ?_
  refine own_iloadN X0 hx hby rfl d4_31 (pc' := 32) rfl ?_
  refine own_i2d X0 hx hby rfl d4_32 (pc' := 33) rfl ?_
  refine own_ddiv X0 hx hby hn33_1 rfl d4_33 (pc' := 34) rfl ?_
  refine own_dadd X0 hx hby hn34_1 rfl d4_34 (pc' := 35) rfl ?_
  refine own_dastore X0 hx hby hZ eH0 V_t0 (by decide) (n := 0) (by decide) (of_decide_eq_true rfl) d4_35 (pc' := 36) rfl (fun T1 h1 X1 eH1 W1 => ?_)
  replace V_o0 := V_o0.other W1 ne_o0_t0
  replace V_o1 := V_o1.other W1 ne_o1_t0
  replace V_t1 := V_t1.other W1 ne_t1_t0
  replace V_t2 := V_t2.other W1 ne_t2_t0
  have N1 := Fr.snoc X1 N0 g_t0
  replace K0 := K0.wr W1 (Or.inl (by simp))
  replace Z0 := Nat.le_trans Z0 (Nat.le_of_eq W1.size.symm)
  replace V_t0 : Ary tr Z h1 t0 .double [(.double (FP.dadd x00 (FP.ddiv (FP.dmul k0 k0) (FP.i2d p2)))), (.double x01), (.double x02)] := V_t0.set W1
  refine own_iinc X1 hx hby rfl (L' := #[.val (.ref o0), .val (.ref o1), .val (.int p2), .val (.int (0 : Int32)), .val (.int (1 : Int32))]) rfl d4_36 (pc' := 39) rfl ?_
  refine own_goto X1 hx hby d4_39 (by decide) (pc' := 10) (by decide) ?_
  refine own_iload X1 hx hby rfl d4_10 (pc' := 12) rfl ?_
  refine own_iconst X1 hx hby (v := (3 : Int32)) (by decide) d4_12 (pc' := 13) rfl ?_
  refine own_icF X1 hx hby d4_13 (by decide) (pc' := 16) rfl ?_
  refine own_aloadN X1 hx hby rfl rfl d4_16 (pc' := 17) rfl ?_
  refine own_iloadN X1 hx hby rfl d4_17 (pc' := 18) rfl ?_
  refine own_aaload X1 hx hby hZ eH1 V_o0 rfl (by decide) (v := (.ref t0)) rfl d4_18 (pc' := 19) rfl ?_
  refine own_iload X1 hx hby rfl d4_19 (pc' := 21) rfl ?_
  refine own_dup2 X1 hx hby rfl rfl d4_21 (pc' := 22) rfl ?_
  refine own_daload X1 hx hby hZ eH1 V_t0 (by decide) (v := (.double x01)) rfl d4_22 (pc' := 23) rfl ?_
  refine own_aloadN X1 hx hby rfl rfl d4_23 (pc' := 24) rfl ?_
  refine own_iloadN X1 hx hby rfl d4_24 (pc' := 25) rfl ?_
  refine own_daload X1 hx hby hZ eH1 V_o1 (by decide) (v := (.double k0)) rfl d4_25 (pc' := 26) rfl ?_
  refine own_aloadN X1 hx hby rfl rfl d4_26 (pc' := 27) rfl ?_
  refine own_iload X1 hx hby rfl d4_27 (pc' := 29) rfl ?_
  refine own_daload X1 hx hby hZ eH1 V_o1 (by decide) (v := (.double k1)) rfl d4_29 (pc' := 30) rfl ?_
  refine own_dmul X1 hx hby hn30_2 rfl d4_30 (pc' := 31) rfl ?_
  refine own_iloadN X1 hx hby rfl d4_31 (pc' := 32) rfl ?_
  refine own_i2d X1 hx hby rfl d4_32 (pc' := 33) rfl ?_
  refine own_ddiv X1 hx hby hn33_2 rfl d4_33 (pc' := 34) rfl ?_
  refine own_dadd X1 hx hby hn34_2 rfl d4_34 (pc' := 35) rfl ?_
  refine own_dastore X1 hx hby hZ eH1 V_t0 (by decide) (n := 1) (by decide) (of_decide_eq_true rfl) d4_35 (pc' := 36) rfl (fun T2 h2 X2 eH2 W2 => ?_)
  replace V_o0 := V_o0.other W2 ne_o0_t0
  replace V_o1 := V_o1.other W2 ne_o1_t0
  replace V_t1 := V_t1.other W2 ne_t1_t0
  replace V_t2 := V_t2.other W2 ne_t2_t0
  have N2 := Fr.snoc X2 N1 g_t0
  replace K0 := K0.wr W2 (Or.inl (by simp))
  replace Z0 := Nat.le_trans Z0 (Nat.le_of_eq W2.size.symm)
  replace V_t0 : Ary tr Z h2 t0 .double [(.double (FP.dadd x00 (FP.ddiv (FP.dmul k0 k0) (FP.i2d p2)))), (.double (FP.dadd x01 (FP.ddiv (FP.dmul k0 k1) (FP.i2d p2)))), (.double x02)] := V_t0.set W2
  refine own_iinc X2 hx hby rfl (L' := #[.val (.ref o0), .val (.ref o1), .val (.int p2), .val (.int (0 : Int32)), .val (.int (2 : Int32))]) rfl d4_36 (pc' := 39) rfl ?_
  refine own_goto X2 hx hby d4_39 (by decide) (pc' := 10) (by decide) ?_
  refine own_iload X2 hx hby rfl d4_10 (pc' := 12) rfl ?_
  refine own_iconst X2 hx hby (v := (3 : Int32)) (by decide) d4_12 (pc' := 13) rfl ?_
  refine own_icF X2 hx hby d4_13 (by decide) (pc' := 16) rfl ?_
  refine own_aloadN X2 hx hby rfl rfl d4_16 (pc' := 17) rfl ?_
  refine own_iloadN X2 hx hby rfl d4_17 (pc' := 18) rfl ?_
  refine own_aaload X2 hx hby hZ eH2 V_o0 rfl (by decide) (v := (.ref t0)) rfl d4_18 (pc' := 19) rfl ?_
  refine own_iload X2 hx hby rfl d4_19 (pc' := 21) rfl ?_
  refine own_dup2 X2 hx hby rfl rfl d4_21 (pc' := 22) rfl ?_
  refine own_daload X2 hx hby hZ eH2 V_t0 (by decide) (v := (.double x02)) rfl d4_22 (pc' := 23) rfl ?_
  refine own_aloadN X2 hx hby rfl rfl d4_23 (pc' := 24) rfl ?_
  refine own_iloadN X2 hx hby rfl d4_24 (pc' := 25) rfl ?_
  refine own_daload X2 hx hby hZ eH2 V_o1 (by decide) (v := (.double k0)) rfl d4_25 (pc' := 26) rfl ?_
  refine own_aloadN X2 hx hby rfl rfl d4_26 (pc' := 27) rfl ?_
  refine own_iload X2 hx hby rfl d4_27 (pc' := 29) rfl ?_
  refine own_daload X2 hx hby hZ eH2 V_o1 (by decide) (v := (.double k2)) rfl d4_29 (pc' := 30) rfl ?_
  refine own_dmul X2 hx hby hn30_3 rfl d4_30 (pc' := 31) rfl ?_
  refine own_iloadN X2 hx hby rfl d4_31 (pc' := 32) rfl ?_
  refine own_i2d X2 hx hby rfl d4_32 (pc' := 33) rfl ?_
  refine own_ddiv X2 hx hby hn33_3 rfl d4_33 (pc' := 34) rfl ?_
  refine own_dadd X2 hx hby hn34_3 rfl d4_34 (pc' := 35) rfl ?_
  refine own_dastore X2 hx hby hZ eH2 V_t0 (by decide) (n := 2) (by decide) (of_decide_eq_true rfl) d4_35 (pc' := 36) rfl (fun T3 h3 X3 eH3 W3 => ?_)
  replace V_o0 := V_o0.other W3 ne_o0_t0
  replace V_o1 := V_o1.other W3 ne_o1_t0
  replace V_t1 := V_t1.other W3 ne_t1_t0
  replace V_t2 := V_t2.other W3 ne_t2_t0
  have N3 := Fr.snoc X3 N2 g_t0
  replace K0 := K0.wr W3 (Or.inl (by simp))
  replace Z0 := Nat.le_trans Z0 (Nat.le_of_eq W3.size.symm)
  replace V_t0 : Ary tr Z h3 t0 .double [(.double (FP.dadd x00 (FP.ddiv (FP.dmul k0 k0) (FP.i2d p2)))), (.double (FP.dadd x01 (FP.ddiv (FP.dmul k0 k1) (FP.i2d p2)))), (.double (FP.dadd x02 (FP.ddiv (FP.dmul k0 k2) (FP.i2d p2))))] := V_t0.set W3
  refine own_iinc X3 hx hby rfl (L' := #[.val (.ref o0), .val (.ref o1), .val (.int p2), .val (.int (0 : Int32)), .val (.int (3 : Int32))]) rfl d4_36 (pc' := 39) rfl ?_
  refine own_goto X3 hx hby d4_39 (by decide) (pc' := 10) (by decide) ?_
  refine own_iload X3 hx hby rfl d4_10 (pc' := 12) rfl ?_
  refine own_iconst X3 hx hby (v := (3 : Int32)) (by decide) d4_12 (pc' := 13) rfl ?_
  refine own_icT X3 hx hby d4_13 (by decide) (by decide) (pc' := 42) (by decide) ?_
  refine own_iinc X3 hx hby rfl (L' := #[.val (.ref o0), .val (.ref o1), .val (.int p2), .val (.int (1 : Int32)), .val (.int (3 : Int32))]) rfl d4_42 (pc' := 45) rfl ?_
  refine own_goto X3 hx hby d4_45 (by decide) (pc' := 2) (by decide) ?_
  refine own_iloadN X3 hx hby rfl d4_2 (pc' := 3) rfl ?_
  refine own_iconst X3 hx hby (v := (3 : Int32)) (by decide) d4_3 (pc' := 4) rfl ?_
  refine own_icF X3 hx hby d4_4 (by decide) (pc' := 7) rfl ?_
  refine own_iconst X3 hx hby (v := (0 : Int32)) (by decide) d4_7 (pc' := 8) rfl ?_
  refine own_istore X3 hx hby (L' := #[.val (.ref o0), .val (.ref o1), .val (.int p2), .val (.int (1 : Int32)), .val (.int (0 : Int32))]) rfl d4_8 (pc' := 10) rfl ?_
  refine own_iload X3 hx hby rfl d4_10 (pc' := 12) rfl ?_
  refine own_iconst X3 hx hby (v := (3 : Int32)) (by decide) d4_12 (pc' := 13) rfl ?_
  refine own_icF X3 hx hby d4_13 (by decide) (pc' := 16) rfl ?_
  refine own_aloadN X3 hx hby rfl rfl d4_16 (pc' := 17) rfl ?_
  refine own_iloadN X3 hx hby rfl d4_17 (pc' := 18) rfl ?_
  refine own_aaload X3 hx hby hZ eH3 V_o0 rfl (by decide) (v := (.ref t1)) rfl d4_18 (pc' := 19) rfl ?_
  refine own_iload X3 hx hby rfl d4_19 (pc' := 21) rfl ?_
  refine own_dup2 X3 hx hby rfl rfl d4_21 (pc' := 22) rfl ?_
  refine own_daload X3 hx hby hZ eH3 V_t1 (by decide) (v := (.double x10)) rfl d4_22 (pc' := 23) rfl ?_
  refine own_aloadN X3 hx hby rfl rfl d4_23 (pc' := 24) rfl ?_
  refine own_iloadN X3 hx hby rfl d4_24 (pc' := 25) rfl ?_
  refine own_daload X3 hx hby hZ eH3 V_o1 (by decide) (v := (.double k1)) rfl d4_25 (pc' := 26) rfl ?_
  refine own_aloadN X3 hx hby rfl rfl d4_26 (pc' := 27) rfl ?_
  refine own_iload X3 hx hby rfl d4_27 (pc' := 29) rfl ?_
  refine own_daload X3 hx hby hZ eH3 V_o1 (by decide) (v := (.double k0)) rfl d4_29 (pc' := 30) rfl ?_
  refine own_dmul X3 hx hby hn30_4 rfl d4_30 (pc' := 31) rfl ?_
  refine own_iloadN X3 hx hby rfl d4_31 (pc' := 32) rfl ?_
  refine own_i2d X3 hx hby rfl d4_32 (pc' := 33) rfl ?_
  refine own_ddiv X3 hx hby hn33_4 rfl d4_33 (pc' := 34) rfl ?_
  refine own_dadd X3 hx hby hn34_4 rfl d4_34 (pc' := 35) rfl ?_
  refine own_dastore X3 hx hby hZ eH3 V_t1 (by decide) (n := 0) (by decide) (of_decide_eq_true rfl) d4_35 (pc' := 36) rfl (fun T4 h4 X4 eH4 W4 => ?_)
  replace V_o0 := V_o0.other W4 ne_o0_t1
  replace V_o1 := V_o1.other W4 ne_o1_t1
  replace V_t0 := V_t0.other W4 (Ne.symm ne_t1_t0)
  replace V_t2 := V_t2.other W4 ne_t2_t1
  have N4 := Fr.snoc X4 N3 g_t1
  replace K0 := K0.wr W4 (Or.inl (by simp))
  replace Z0 := Nat.le_trans Z0 (Nat.le_of_eq W4.size.symm)
  replace V_t1 : Ary tr Z h4 t1 .double [(.double (FP.dadd x10 (FP.ddiv (FP.dmul k1 k0) (FP.i2d p2)))), (.double x11), (.double x12)] := V_t1.set W4
  refine own_iinc X4 hx hby rfl (L' := #[.val (.ref o0), .val (.ref o1), .val (.int p2), .val (.int (1 : Int32)), .val (.int (1 : Int32))]) rfl d4_36 (pc' := 39) rfl ?_
  refine own_goto X4 hx hby d4_39 (by decide) (pc' := 10) (by decide) ?_
  refine own_iload X4 hx hby rfl d4_10 (pc' := 12) rfl ?_
  refine own_iconst X4 hx hby (v := (3 : Int32)) (by decide) d4_12 (pc' := 13) rfl ?_
  refine own_icF X4 hx hby d4_13 (by decide) (pc' := 16) rfl ?_
  refine own_aloadN X4 hx hby rfl rfl d4_16 (pc' := 17) rfl ?_
  refine own_iloadN X4 hx hby rfl d4_17 (pc' := 18) rfl ?_
  refine own_aaload X4 hx hby hZ eH4 V_o0 rfl (by decide) (v := (.ref t1)) rfl d4_18 (pc' := 19) rfl ?_
  refine own_iload X4 hx hby rfl d4_19 (pc' := 21) rfl ?_
  refine own_dup2 X4 hx hby rfl rfl d4_21 (pc' := 22) rfl ?_
  refine own_daload X4 hx hby hZ eH4 V_t1 (by decide) (v := (.double x11)) rfl d4_22 (pc' := 23) rfl ?_
  refine own_aloadN X4 hx hby rfl rfl d4_23 (pc' := 24) rfl ?_
  refine own_iloadN X4 hx hby rfl d4_24 (pc' := 25) rfl ?_
  refine own_daload X4 hx hby hZ eH4 V_o1 (by decide) (v := (.double k1)) rfl d4_25 (pc' := 26) rfl ?_
  refine own_aloadN X4 hx hby rfl rfl d4_26 (pc' := 27) rfl ?_
  refine own_iload X4 hx hby rfl d4_27 (pc' := 29) rfl ?_
  refine own_daload X4 hx hby hZ eH4 V_o1 (by decide) (v := (.double k1)) rfl d4_29 (pc' := 30) rfl ?_
  refine own_dmul X4 hx hby hn30_5 rfl d4_30 (pc' := 31) rfl ?_
  refine own_iloadN X4 hx hby rfl d4_31 (pc' := 32) rfl ?_
  refine own_i2d X4 hx hby rfl d4_32 (pc' := 33) rfl ?_
  refine own_ddiv X4 hx hby hn33_5 rfl d4_33 (pc' := 34) rfl ?_
  refine own_dadd X4 hx hby hn34_5 rfl d4_34 (pc' := 35) rfl ?_
  refine own_dastore X4 hx hby hZ eH4 V_t1 (by decide) (n := 1) (by decide) (of_decide_eq_true rfl) d4_35 (pc' := 36) rfl (fun T5 h5 X5 eH5 W5 => ?_)
  replace V_o0 := V_o0.other W5 ne_o0_t1
  replace V_o1 := V_o1.other W5 ne_o1_t1
  replace V_t0 := V_t0.other W5 (Ne.symm ne_t1_t0)
  replace V_t2 := V_t2.other W5 ne_t2_t1
  have N5 := Fr.snoc X5 N4 g_t1
  replace K0 := K0.wr W5 (Or.inl (by simp))
  replace Z0 := Nat.le_trans Z0 (Nat.le_of_eq W5.size.symm)
  replace V_t1 : Ary tr Z h5 t1 .double [(.double (FP.dadd x10 (FP.ddiv (FP.dmul k1 k0) (FP.i2d p2)))), (.double (FP.dadd x11 (FP.ddiv (FP.dmul k1 k1) (FP.i2d p2)))), (.double x12)] := V_t1.set W5
  refine own_iinc X5 hx hby rfl (L' := #[.val (.ref o0), .val (.ref o1), .val (.int p2), .val (.int (1 : Int32)), .val (.int (2 : Int32))]) rfl d4_36 (pc' := 39) rfl ?_
  refine own_goto X5 hx hby d4_39 (by decide) (pc' := 10) (by decide) ?_
  refine own_iload X5 hx hby rfl d4_10 (pc' := 12) rfl ?_
  refine own_iconst X5 hx hby (v := (3 : Int32)) (by decide) d4_12 (pc' := 13) rfl ?_
  refine own_icF X5 hx hby d4_13 (by decide) (pc' := 16) rfl ?_
  refine own_aloadN X5 hx hby rfl rfl d4_16 (pc' := 17) rfl ?_
  refine own_iloadN X5 hx hby rfl d4_17 (pc' := 18) rfl ?_
  refine own_aaload X5 hx hby hZ eH5 V_o0 rfl (by decide) (v := (.ref t1)) rfl d4_18 (pc' := 19) rfl ?_
  refine own_iload X5 hx hby rfl d4_19 (pc' := 21) rfl ?_
  refine own_dup2 X5 hx hby rfl rfl d4_21 (pc' := 22) rfl ?_
  refine own_daload X5 hx hby hZ eH5 V_t1 (by decide) (v := (.double x12)) rfl d4_22 (pc' := 23) rfl ?_
  refine own_aloadN X5 hx hby rfl rfl d4_23 (pc' := 24) rfl ?_
  refine own_iloadN X5 hx hby rfl d4_24 (pc' := 25) rfl ?_
  refine own_daload X5 hx hby hZ eH5 V_o1 (by decide) (v := (.double k1)) rfl d4_25 (pc' := 26) rfl ?_
  refine own_aloadN X5 hx hby rfl rfl d4_26 (pc' := 27) rfl ?_
  refine own_iload X5 hx hby rfl d4_27 (pc' := 29) rfl ?_
  refine own_daload X5 hx hby hZ eH5 V_o1 (by decide) (v := (.double k2)) rfl d4_29 (pc' := 30) rfl ?_
  refine own_dmul X5 hx hby hn30_6 rfl d4_30 (pc' := 31) rfl ?_
  refine own_iloadN X5 hx hby rfl d4_31 (pc' := 32) rfl ?_
  refine own_i2d X5 hx hby rfl d4_32 (pc' := 33) rfl ?_
  refine own_ddiv X5 hx hby hn33_6 rfl d4_33 (pc' := 34) rfl ?_
  refine own_dadd X5 hx hby hn34_6 rfl d4_34 (pc' := 35) rfl ?_
  refine own_dastore X5 hx hby hZ eH5 V_t1 (by decide) (n := 2) (by decide) (of_decide_eq_true rfl) d4_35 (pc' := 36) rfl (fun T6 h6 X6 eH6 W6 => ?_)
  replace V_o0 := V_o0.other W6 ne_o0_t1
  replace V_o1 := V_o1.other W6 ne_o1_t1
  replace V_t0 := V_t0.other W6 (Ne.symm ne_t1_t0)
  replace V_t2 := V_t2.other W6 ne_t2_t1
  have N6 := Fr.snoc X6 N5 g_t1
  replace K0 := K0.wr W6 (Or.inl (by simp))
  replace Z0 := Nat.le_trans Z0 (Nat.le_of_eq W6.size.symm)
  replace V_t1 : Ary tr Z h6 t1 .double [(.double (FP.dadd x10 (FP.ddiv (FP.dmul k1 k0) (FP.i2d p2)))), (.double (FP.dadd x11 (FP.ddiv (FP.dmul k1 k1) (FP.i2d p2)))), (.double (FP.dadd x12 (FP.ddiv (FP.dmul k1 k2) (FP.i2d p2))))] := V_t1.set W6
  refine own_iinc X6 hx hby rfl (L' := #[.val (.ref o0), .val (.ref o1), .val (.int p2), .val (.int (1 : Int32)), .val (.int (3 : Int32))]) rfl d4_36 (pc' := 39) rfl ?_
  refine own_goto X6 hx hby d4_39 (by decide) (pc' := 10) (by decide) ?_
  refine own_iload X6 hx hby rfl d4_10 (pc' := 12) rfl ?_
  refine own_iconst X6 hx hby (v := (3 : Int32)) (by decide) d4_12 (pc' := 13) rfl ?_
  refine own_icT X6 hx hby d4_13 (by decide) (by decide) (pc' := 42) (by decide) ?_
  refine own_iinc X6 hx hby rfl (L' := #[.val (.ref o0), .val (.ref o1), .val (.int p2), .val (.int (2 : Int32)), .val (.int (3 : Int32))]) rfl d4_42 (pc' := 45) rfl ?_
  refine own_goto X6 hx hby d4_45 (by decide) (pc' := 2) (by decide) ?_
  refine own_iloadN X6 hx hby rfl d4_2 (pc' := 3) rfl ?_
  refine own_iconst X6 hx hby (v := (3 : Int32)) (by decide) d4_3 (pc' := 4) rfl ?_
  refine own_icF X6 hx hby d4_4 (by decide) (pc' := 7) rfl ?_
  refine own_iconst X6 hx hby (v := (0 : Int32)) (by decide) d4_7 (pc' := 8) rfl ?_
  refine own_istore X6 hx hby (L' := #[.val (.ref o0), .val (.ref o1), .val (.int p2), .val (.int (2 : Int32)), .val (.int (0 : Int32))]) rfl d4_8 (pc' := 10) rfl ?_
  refine own_iload X6 hx hby rfl d4_10 (pc' := 12) rfl ?_
  refine own_iconst X6 hx hby (v := (3 : Int32)) (by decide) d4_12 (pc' := 13) rfl ?_
  refine own_icF X6 hx hby d4_13 (by decide) (pc' := 16) rfl ?_
  refine own_aloadN X6 hx hby rfl rfl d4_16 (pc' := 17) rfl ?_
  refine own_iloadN X6 hx hby rfl d4_17 (pc' := 18) rfl ?_
  refine own_aaload X6 hx hby hZ eH6 V_o0 rfl (by decide) (v := (.ref t2)) rfl d4_18 (pc' := 19) rfl ?_
  refine own_iload X6 hx hby rfl d4_19 (pc' := 21) rfl ?_
  refine own_dup2 X6 hx hby rfl rfl d4_21 (pc' := 22) rfl ?_
  refine own_daload X6 hx hby hZ eH6 V_t2 (by decide) (v := (.double x20)) rfl d4_22 (pc' := 23) rfl ?_
  refine own_aloadN X6 hx hby rfl rfl d4_23 (pc' := 24) rfl ?_
  refine own_iloadN X6 hx hby rfl d4_24 (pc' := 25) rfl ?_
  refine own_daload X6 hx hby hZ eH6 V_o1 (by decide) (v := (.double k2)) rfl d4_25 (pc' := 26) rfl ?_
  refine own_aloadN X6 hx hby rfl rfl d4_26 (pc' := 27) rfl ?_
  refine own_iload X6 hx hby rfl d4_27 (pc' := 29) rfl ?_
  refine own_daload X6 hx hby hZ eH6 V_o1 (by decide) (v := (.double k0)) rfl d4_29 (pc' := 30) rfl ?_
  refine own_dmul X6 hx hby hn30_7 rfl d4_30 (pc' := 31) rfl ?_
  refine own_iloadN X6 hx hby rfl d4_31 (pc' := 32) rfl ?_
  refine own_i2d X6 hx hby rfl d4_32 (pc' := 33) rfl ?_
  refine own_ddiv X6 hx hby hn33_7 rfl d4_33 (pc' := 34) rfl ?_
  refine own_dadd X6 hx hby hn34_7 rfl d4_34 (pc' := 35) rfl ?_
  refine own_dastore X6 hx hby hZ eH6 V_t2 (by decide) (n := 0) (by decide) (of_decide_eq_true rfl) d4_35 (pc' := 36) rfl (fun T7 h7 X7 eH7 W7 => ?_)
  replace V_o0 := V_o0.other W7 ne_o0_t2
  replace V_o1 := V_o1.other W7 ne_o1_t2
  replace V_t0 := V_t0.other W7 (Ne.symm ne_t2_t0)
  replace V_t1 := V_t1.other W7 (Ne.symm ne_t2_t1)
  have N7 := Fr.snoc X7 N6 g_t2
  replace K0 := K0.wr W7 (Or.inl (by simp))
  replace Z0 := Nat.le_trans Z0 (Nat.le_of_eq W7.size.symm)
  replace V_t2 : Ary tr Z h7 t2 .double [(.double (FP.dadd x20 (FP.ddiv (FP.dmul k2 k0) (FP.i2d p2)))), (.double x21), (.double x22)] := V_t2.set W7
  refine own_iinc X7 hx hby rfl (L' := #[.val (.ref o0), .val (.ref o1), .val (.int p2), .val (.int (2 : Int32)), .val (.int (1 : Int32))]) rfl d4_36 (pc' := 39) rfl ?_
  refine own_goto X7 hx hby d4_39 (by decide) (pc' := 10) (by decide) ?_
  refine own_iload X7 hx hby rfl d4_10 (pc' := 12) rfl ?_
  refine own_iconst X7 hx hby (v := (3 : Int32)) (by decide) d4_12 (pc' := 13) rfl ?_
  refine own_icF X7 hx hby d4_13 (by decide) (pc' := 16) rfl ?_
  refine own_aloadN X7 hx hby rfl rfl d4_16 (pc' := 17) rfl ?_
  refine own_iloadN X7 hx hby rfl d4_17 (pc' := 18) rfl ?_
  refine own_aaload X7 hx hby hZ eH7 V_o0 rfl (by decide) (v := (.ref t2)) rfl d4_18 (pc' := 19) rfl ?_
  refine own_iload X7 hx hby rfl d4_19 (pc' := 21) rfl ?_
  refine own_dup2 X7 hx hby rfl rfl d4_21 (pc' := 22) rfl ?_
  refine own_daload X7 hx hby hZ eH7 V_t2 (by decide) (v := (.double x21)) rfl d4_22 (pc' := 23) rfl ?_
  refine own_aloadN X7 hx hby rfl rfl d4_23 (pc' := 24) rfl ?_
  refine own_iloadN X7 hx hby rfl d4_24 (pc' := 25) rfl ?_
  refine own_daload X7 hx hby hZ eH7 V_o1 (by decide) (v := (.double k2)) rfl d4_25 (pc' := 26) rfl ?_
  refine own_aloadN X7 hx hby rfl rfl d4_26 (pc' := 27) rfl ?_
  refine own_iload X7 hx hby rfl d4_27 (pc' := 29) rfl ?_
  refine own_daload X7 hx hby hZ eH7 V_o1 (by decide) (v := (.double k1)) rfl d4_29 (pc' := 30) rfl ?_
  refine own_dmul X7 hx hby hn30_8 rfl d4_30 (pc' := 31) rfl ?_
  refine own_iloadN X7 hx hby rfl d4_31 (pc' := 32) rfl ?_
  refine own_i2d X7 hx hby rfl d4_32 (pc' := 33) rfl ?_
  refine own_ddiv X7 hx hby hn33_8 rfl d4_33 (pc' := 34) rfl ?_
  refine own_dadd X7 hx hby hn34_8 rfl d4_34 (pc' := 35) rfl ?_
  refine own_dastore X7 hx hby hZ eH7 V_t2 (by decide) (n := 1) (by decide) (of_decide_eq_true rfl) d4_35 (pc' := 36) rfl (fun T8 h8 X8 eH8 W8 => ?_)
  replace V_o0 := V_o0.other W8 ne_o0_t2
  replace V_o1 := V_o1.other W8 ne_o1_t2
  replace V_t0 := V_t0.other W8 (Ne.symm ne_t2_t0)
  replace V_t1 := V_t1.other W8 (Ne.symm ne_t2_t1)
  have N8 := Fr.snoc X8 N7 g_t2
  replace K0 := K0.wr W8 (Or.inl (by simp))
  replace Z0 := Nat.le_trans Z0 (Nat.le_of_eq W8.size.symm)
  replace V_t2 : Ary tr Z h8 t2 .double [(.double (FP.dadd x20 (FP.ddiv (FP.dmul k2 k0) (FP.i2d p2)))), (.double (FP.dadd x21 (FP.ddiv (FP.dmul k2 k1) (FP.i2d p2)))), (.double x22)] := V_t2.set W8
  refine own_iinc X8 hx hby rfl (L' := #[.val (.ref o0), .val (.ref o1), .val (.int p2), .val (.int (2 : Int32)), .val (.int (2 : Int32))]) rfl d4_36 (pc' := 39) rfl ?_
  refine own_goto X8 hx hby d4_39 (by decide) (pc' := 10) (by decide) ?_
  refine own_iload X8 hx hby rfl d4_10 (pc' := 12) rfl ?_
  refine own_iconst X8 hx hby (v := (3 : Int32)) (by decide) d4_12 (pc' := 13) rfl ?_
  refine own_icF X8 hx hby d4_13 (by decide) (pc' := 16) rfl ?_
  refine own_aloadN X8 hx hby rfl rfl d4_16 (pc' := 17) rfl ?_
  refine own_iloadN X8 hx hby rfl d4_17 (pc' := 18) rfl ?_
  refine own_aaload X8 hx hby hZ eH8 V_o0 rfl (by decide) (v := (.ref t2)) rfl d4_18 (pc' := 19) rfl ?_
  refine own_iload X8 hx hby rfl d4_19 (pc' := 21) rfl ?_
  refine own_dup2 X8 hx hby rfl rfl d4_21 (pc' := 22) rfl ?_
  refine own_daload X8 hx hby hZ eH8 V_t2 (by decide) (v := (.double x22)) rfl d4_22 (pc' := 23) rfl ?_
  refine own_aloadN X8 hx hby rfl rfl d4_23 (pc' := 24) rfl ?_
  refine own_iloadN X8 hx hby rfl d4_24 (pc' := 25) rfl ?_
  refine own_daload X8 hx hby hZ eH8 V_o1 (by decide) (v := (.double k2)) rfl d4_25 (pc' := 26) rfl ?_
  refine own_aloadN X8 hx hby rfl rfl d4_26 (pc' := 27) rfl ?_
  refine own_iload X8 hx hby rfl d4_27 (pc' := 29) rfl ?_
  refine own_daload X8 hx hby hZ eH8 V_o1 (by decide) (v := (.double k2)) rfl d4_29 (pc' := 30) rfl ?_
  refine own_dmul X8 hx hby hn30_9 rfl d4_30 (pc' := 31) rfl ?_
  refine own_iloadN X8 hx hby rfl d4_31 (pc' := 32) rfl ?_
  refine own_i2d X8 hx hby rfl d4_32 (pc' := 33) rfl ?_
  refine own_ddiv X8 hx hby hn33_9 rfl d4_33 (pc' := 34) rfl ?_
  refine own_dadd X8 hx hby hn34_9 rfl d4_34 (pc' := 35) rfl ?_
  refine own_dastore X8 hx hby hZ eH8 V_t2 (by decide) (n := 2) (by decide) (of_decide_eq_true rfl) d4_35 (pc' := 36) rfl (fun T9 h9 X9 eH9 W9 => ?_)
  replace V_o0 := V_o0.other W9 ne_o0_t2
  replace V_o1 := V_o1.other W9 ne_o1_t2
  replace V_t0 := V_t0.other W9 (Ne.symm ne_t2_t0)
  replace V_t1 := V_t1.other W9 (Ne.symm ne_t2_t1)
  have N9 := Fr.snoc X9 N8 g_t2
  replace K0 := K0.wr W9 (Or.inl (by simp))
  replace Z0 := Nat.le_trans Z0 (Nat.le_of_eq W9.size.symm)
  replace V_t2 : Ary tr Z h9 t2 .double [(.double (FP.dadd x20 (FP.ddiv (FP.dmul k2 k0) (FP.i2d p2)))), (.double (FP.dadd x21 (FP.ddiv (FP.dmul k2 k1) (FP.i2d p2)))), (.double (FP.dadd x22 (FP.ddiv (FP.dmul k2 k2) (FP.i2d p2))))] := V_t2.set W9
  refine own_iinc X9 hx hby rfl (L' := #[.val (.ref o0), .val (.ref o1), .val (.int p2), .val (.int (2 : Int32)), .val (.int (3 : Int32))]) rfl d4_36 (pc' := 39) rfl ?_
  refine own_goto X9 hx hby d4_39 (by decide) (pc' := 10) (by decide) ?_
  refine own_iload X9 hx hby rfl d4_10 (pc' := 12) rfl ?_
  refine own_iconst X9 hx hby (v := (3 : Int32)) (by decide) d4_12 (pc' := 13) rfl ?_
  refine own_icT X9 hx hby d4_13 (by decide) (by decide) (pc' := 42) (by decide) ?_
  refine own_iinc X9 hx hby rfl (L' := #[.val (.ref o0), .val (.ref o1), .val (.int p2), .val (.int (3 : Int32)), .val (.int (3 : Int32))]) rfl d4_42 (pc' := 45) rfl ?_
  refine own_goto X9 hx hby d4_45 (by decide) (pc' := 2) (by decide) ?_
  refine own_iloadN X9 hx hby rfl d4_2 (pc' := 3) rfl ?_
  refine own_iconst X9 hx hby (v := (3 : Int32)) (by decide) d4_3 (pc' := 4) rfl ?_
  refine own_icT X9 hx hby d4_4 (by decide) (by decide) (pc' := 48) (by decide) ?_
  exact own_retV X9 hx hby Bd.notSynchronized Bd.returns d4_48 (by decide) (by decide) eH9 ⟨rfl, N9, K0, V_t0, V_t1, V_t2⟩
theorem ef3 (m : MethodId) (x0 : Addr) (x1 : Addr) (x2 : Int32) : entryFrame m #[(.ref x0), (.ref x1), (.int x2)] 3 = mkF m 0 #[.val (.ref x0), .val (.ref x1), .val (.int x2)] [] := by first | (simp [entryFrame, mkF, argsToLocals, Value.category]; done) | rfl
def Q3 (Z : State) (o0 : Addr) (o1 : Addr) (p2 : Int32) (velocity_o0 : Addr) (t0 : Addr) (t1 : Addr) (t2 : Addr) (x00 : UInt64) (x01 : UInt64) (x02 : UInt64) (x10 : UInt64) (x11 : UInt64) (x12 : UInt64) (x20 : UInt64) (x21 : UInt64) (x22 : UInt64) (k0 : UInt64) (k1 : UInt64) (k2 : UInt64) (h0 : Heap) (n0 : Nat) (v : Option Value) (h : Heap) (L : List Loc) : Prop := v = none ∧ Fr n0 L ∧ Keep h0 h [t2, t1, t0] ∧ Ary tr Z h t2 .double [(.double (FP.dadd x20 (FP.ddiv (FP.dmul k2 k0) (FP.i2d p2)))), (.double (FP.dadd x21 (FP.ddiv (FP.dmul k2 k1) (FP.i2d p2)))), (.double (FP.dadd x22 (FP.ddiv (FP.dmul k2 k2) (FP.i2d p2))))] ∧ Ary tr Z h t1 .double [(.double (FP.dadd x10 (FP.ddiv (FP.dmul k1 k0) (FP.i2d p2)))), (.double (FP.dadd x11 (FP.ddiv (FP.dmul k1 k1) (FP.i2d p2)))), (.double (FP.dadd x12 (FP.ddiv (FP.dmul k1 k2) (FP.i2d p2))))] ∧ Ary tr Z h t0 .double [(.double (FP.dadd x00 (FP.ddiv (FP.dmul k0 k0) (FP.i2d p2)))), (.double (FP.dadd x01 (FP.ddiv (FP.dmul k0 k1) (FP.i2d p2)))), (.double (FP.dadd x02 (FP.ddiv (FP.dmul k0 k2) (FP.i2d p2))))]
set_option maxRecDepth 65536 in
set_option maxHeartbeats 40000000 in
theorem rm3 (l : Launch) (Z : State) (a0 : Array Value) (hw : ∀ d ∈ tables_1, d.before a0 Z = true) (ws : List Jvm.Cond) (o0 : Addr) (o1 : Addr) (p2 : Int32) (velocity_o0 : Addr) (t0 : Addr) (t1 : Addr) (t2 : Addr) (x00 : UInt64) (x01 : UInt64) (x02 : UInt64) (x10 : UInt64) (x11 : UInt64) (x12 : UInt64) (x20 : UInt64) (x21 : UInt64) (x22 : UInt64) (k0 : UInt64) (k1 : UInt64) (k2 : UInt64) (h0 : Heap) (n0 : Nat) (Z0 : n0 ≤ h0.size) (F_o0_velocity : Fld Z h0 o0 "com/example/volts_to_velocity/voltstovelocity/ScoreNoise" "velocity" "[[D" (.ref velocity_o0)) (V_velocity_o0 : Ary (ovA Z .double "[D") Z h0 velocity_o0 (.array .double) [(.ref t0), (.ref t1), (.ref t2)]) (V_t0 : Ary tr Z h0 t0 .double [(.double x00), (.double x01), (.double x02)]) (V_t1 : Ary tr Z h0 t1 .double [(.double x10), (.double x11), (.double x12)]) (V_t2 : Ary tr Z h0 t2 .double [(.double x20), (.double x21), (.double x22)]) (V_o1 : Ary tr Z h0 o1 .double [(.double k0), (.double k1), (.double k2)]) (hn30_1_6 : (NoNaN64 (FP.dmul k0 k0))) (hn33_1_6 : (NoNaN64 (FP.ddiv (FP.dmul k0 k0) (FP.i2d p2)))) (hn34_1_6 : (NoNaN64 (FP.dadd x00 (FP.ddiv (FP.dmul k0 k0) (FP.i2d p2))))) (g_t0 : n0 ≤ t0) (ne_velocity_o0_t0 : velocity_o0 ≠ t0) (ne_o1_t0 : o1 ≠ t0) (ne_t1_t0 : t1 ≠ t0) (ne_t2_t0 : t2 ≠ t0) (hn30_2_6 : (NoNaN64 (FP.dmul k0 k1))) (hn33_2_6 : (NoNaN64 (FP.ddiv (FP.dmul k0 k1) (FP.i2d p2)))) (hn34_2_6 : (NoNaN64 (FP.dadd x01 (FP.ddiv (FP.dmul k0 k1) (FP.i2d p2))))) (hn30_3_6 : (NoNaN64 (FP.dmul k0 k2))) (hn33_3_6 : (NoNaN64 (FP.ddiv (FP.dmul k0 k2) (FP.i2d p2)))) (hn34_3_6 : (NoNaN64 (FP.dadd x02 (FP.ddiv (FP.dmul k0 k2) (FP.i2d p2))))) (hn30_4_6 : (NoNaN64 (FP.dmul k1 k0))) (hn33_4_6 : (NoNaN64 (FP.ddiv (FP.dmul k1 k0) (FP.i2d p2)))) (hn34_4_6 : (NoNaN64 (FP.dadd x10 (FP.ddiv (FP.dmul k1 k0) (FP.i2d p2))))) (g_t1 : n0 ≤ t1) (ne_velocity_o0_t1 : velocity_o0 ≠ t1) (ne_o1_t1 : o1 ≠ t1) (ne_t2_t1 : t2 ≠ t1) (hn30_5_6 : (NoNaN64 (FP.dmul k1 k1))) (hn33_5_6 : (NoNaN64 (FP.ddiv (FP.dmul k1 k1) (FP.i2d p2)))) (hn34_5_6 : (NoNaN64 (FP.dadd x11 (FP.ddiv (FP.dmul k1 k1) (FP.i2d p2))))) (hn30_6_6 : (NoNaN64 (FP.dmul k1 k2))) (hn33_6_6 : (NoNaN64 (FP.ddiv (FP.dmul k1 k2) (FP.i2d p2)))) (hn34_6_6 : (NoNaN64 (FP.dadd x12 (FP.ddiv (FP.dmul k1 k2) (FP.i2d p2))))) (hn30_7_6 : (NoNaN64 (FP.dmul k2 k0))) (hn33_7_6 : (NoNaN64 (FP.ddiv (FP.dmul k2 k0) (FP.i2d p2)))) (hn34_7_6 : (NoNaN64 (FP.dadd x20 (FP.ddiv (FP.dmul k2 k0) (FP.i2d p2))))) (g_t2 : n0 ≤ t2) (ne_velocity_o0_t2 : velocity_o0 ≠ t2) (ne_o1_t2 : o1 ≠ t2) (hn30_8_6 : (NoNaN64 (FP.dmul k2 k1))) (hn33_8_6 : (NoNaN64 (FP.ddiv (FP.dmul k2 k1) (FP.i2d p2)))) (hn34_8_6 : (NoNaN64 (FP.dadd x21 (FP.ddiv (FP.dmul k2 k1) (FP.i2d p2))))) (hn30_9_6 : (NoNaN64 (FP.dmul k2 k2))) (hn33_9_6 : (NoNaN64 (FP.ddiv (FP.dmul k2 k2) (FP.i2d p2)))) (hn34_9_6 : (NoNaN64 (FP.dadd x22 (FP.ddiv (FP.dmul k2 k2) (FP.i2d p2))))) (ne_o0_t2 : o0 ≠ t2) (ne_o0_t1 : o0 ≠ t1) (ne_o0_t0 : o0 ≠ t0) :
    MetFree l (⟨"com/example/volts_to_velocity/voltstovelocity/ScoreNoise", "addVelocity", "([DI)V"⟩ : MethodName) (head1 (Jvm.Cond.code (⟨"com/example/volts_to_velocity/voltstovelocity/ScoreNoise", "addVelocity", "([DI)V"⟩ : MethodName) prog_20_method_2_code 3 none :: ws) ({ frames := 1, cells := 0, slots := 0, locals := 16 } : Room)) (fun a U => a = #[(.ref o0), (.ref o1), (.int p2)] ∧ Z.Warmed39 U.vm ∧ U.heap = h0) (fun _ _ _ _ _ => True) (fun _ U o U' => ∃ v L, o = .returned v ∧ Q3 Z o0 o1 p2 velocity_o0 t0 t1 t2 x00 x01 x02 x10 x11 x12 x20 x21 x22 k0 k1 k2 h0 n0 v U'.heap L ∧ FrameEnd U o U' L ({ frames := 1, cells := 0, slots := 0, locals := 16 } : Room).cells ({ frames := 1, cells := 0, slots := 0, locals := 16 } : Room).slots) := by
  refine MetFree.of_bodySF (plainFor_of_name pn_com_example_volts_to_velocity_voltstovelocity_ScoreNoise) hisR ?_
  intro p e s m args below meth c s₁ Bd hml0 hP hK
  obtain ⟨rfl, hZ, hh⟩ := hP
  have hx := Bd.exec
  have hby := Bd.bytes
  have hml : c.maxLocals = 3 := hml0
  have hown : s.vm.findClass "com/example/volts_to_velocity/voltstovelocity/ScoreNoise" = some m.cls := findClass_of_methodNamed Bd.named
  have hnm := (name_of_methodNamed Bd.named Bd.method).1
  have X0 : Stand p l e ({ frames := 1, cells := 0, slots := 0, locals := 16 } : Room) s m #[(.ref o0), (.ref o1), (.int p2)] below meth c s₁ [] 0 0 := Stand.of_body Bd
  have eH0 : s₁.heap = h0 := by rw [← hh, Bd.state]; rfl
  have N0 := Fr.nil n0
  have K0 := Keep.refl h0 [t2, t1, t0]
  show Gt p.tables e below (fun o U' => ∃ v L, o = .returned v ∧ Q3 Z o0 o1 p2 velocity_o0 t0 t1 t2 x00 x01 x02 x10 x11 x12 x20 x21 x22 k0 k1 k2 h0 n0 v U'.heap L ∧ FrameEnd s o U' L ({ frames := 1, cells := 0, slots := 0, locals := 16 } : Room).cells ({ frames := 1, cells := 0, slots := 0, locals := 16 } : Room).slots) _
  refine own_cast (ef3 m o0 o1 p2) ?_
  refine own_aloadN X0 hx hby rfl rfl d3_0 (pc' := 1) rfl ?_
  refine own_getF X0 hx hby hZ hown (host := "") (Or.inl (hw _ (List.mem_of_getElem? (i := 13) rfl))) Via.refl eH0 F_o0_velocity d3_1 (pc' := 4) rfl (fun T1 X1 eH1 => ?_)
  refine own_aloadN X1 hx hby rfl rfl d3_4 (pc' := 5) rfl ?_
  refine own_iloadN X1 hx hby rfl d3_5 (pc' := 6) rfl ?_
  refine own_static X1 hx hby hZ (y := (⟨"com/example/volts_to_velocity/voltstovelocity/ScoreNoise", "addOuter", "([[D[DI)V"⟩ : MethodName)) (rest := []) hown (hw _ (List.mem_of_getElem? (i := 22) rfl)) (hw _ (List.mem_of_getElem? (i := 23) rfl)) (hw _ (List.mem_of_getElem? (i := 24) rfl)) (hw _ (List.mem_of_getElem? (i := 4) rfl)) (by decide) (rm4 l Z a0 hw [] velocity_o0 o1 p2 t0 t1 t2 x00 x01 x02 x10 x11 x12 x20 x21 x22 k0 k1 k2 h0 n0 Z0 V_velocity_o0 V_t0 V_t1 V_t2 V_o1 hn30_1_6 hn33_1_6 hn34_1_6 g_t0 ne_velocity_o0_t0 ne_o1_t0 ne_t1_t0 ne_t2_t0 hn30_2_6 hn33_2_6 hn34_2_6 hn30_3_6 hn33_3_6 hn34_3_6 hn30_4_6 hn33_4_6 hn34_4_6 g_t1 ne_velocity_o0_t1 ne_o1_t1 ne_t2_t1 hn30_5_6 hn33_5_6 hn34_5_6 hn30_6_6 hn33_6_6 hn34_6_6 hn30_7_6 hn33_7_6 hn34_7_6 g_t2 ne_velocity_o0_t2 ne_o1_t2 hn30_8_6 hn33_8_6 hn34_8_6 hn30_9_6 hn33_9_6 hn34_9_6) eH1 (by rw [hml]; rfl) (argsL := [(.ref velocity_o0), (.ref o1), (.int p2)]) rfl (lenOf pd_0 rfl) rfl d3_6 (pc' := 9) rfl (by decide) (W := 0) (Nat.le_of_eq rfl) (by decide) (by decide) (by decide) (fun T2 h2 Lc2 v2r X2 eH2 hQ2 => ?_)
  obtain ⟨rfl, Nq2, Kq2, gq2_0, gq2_1, gq2_2⟩ := hQ2
  have N2 := Fr.app N0 Nq2
  replace F_o0_velocity := F_o0_velocity.keep Kq2 (ninS ne_o0_t0 (ninS ne_o0_t1 (ninS ne_o0_t2 nin0)))
  replace V_o1 := V_o1.keep Kq2 (ninS ne_o1_t0 (ninS ne_o1_t1 (ninS ne_o1_t2 nin0)))
  replace V_velocity_o0 := V_velocity_o0.keep Kq2 (ninS ne_velocity_o0_t0 (ninS ne_velocity_o0_t1 (ninS ne_velocity_o0_t2 nin0)))
  replace K0 := K0.trans Kq2 (allS (Or.inl (by simp)) (allS (Or.inl (by simp)) (allS (Or.inl (by simp)) all0)))
  have V_t0 := gq2_0
  have V_t1 := gq2_1
  have V_t2 := gq2_2
  replace Z0 := Nat.le_trans Z0 Kq2.1
  exact own_retV X2 hx hby Bd.notSynchronized Bd.returns d3_9 (by decide) (by decide) eH2 ⟨rfl, N2, K0, V_t2, V_t1, V_t0⟩
theorem ef5 (m : MethodId) (x0 : Addr) (x1 : Addr) (x2 : Int32) : entryFrame m #[(.ref x0), (.ref x1), (.int x2)] 3 = mkF m 0 #[.val (.ref x0), .val (.ref x1), .val (.int x2)] [] := by first | (simp [entryFrame, mkF, argsToLocals, Value.category]; done) | rfl
def Q5 (Z : State) (o0 : Addr) (o1 : Addr) (p2 : Int32) (voltage_o0 : Addr) (t0 : Addr) (t1 : Addr) (t2 : Addr) (x00 : UInt64) (x01 : UInt64) (x02 : UInt64) (x10 : UInt64) (x11 : UInt64) (x12 : UInt64) (x20 : UInt64) (x21 : UInt64) (x22 : UInt64) (k0 : UInt64) (k1 : UInt64) (k2 : UInt64) (h0 : Heap) (n0 : Nat) (v : Option Value) (h : Heap) (L : List Loc) : Prop := v = none ∧ Fr n0 L ∧ Keep h0 h [t2, t1, t0] ∧ Ary tr Z h t2 .double [(.double (FP.dadd x20 (FP.ddiv (FP.dmul k2 k0) (FP.i2d p2)))), (.double (FP.dadd x21 (FP.ddiv (FP.dmul k2 k1) (FP.i2d p2)))), (.double (FP.dadd x22 (FP.ddiv (FP.dmul k2 k2) (FP.i2d p2))))] ∧ Ary tr Z h t1 .double [(.double (FP.dadd x10 (FP.ddiv (FP.dmul k1 k0) (FP.i2d p2)))), (.double (FP.dadd x11 (FP.ddiv (FP.dmul k1 k1) (FP.i2d p2)))), (.double (FP.dadd x12 (FP.ddiv (FP.dmul k1 k2) (FP.i2d p2))))] ∧ Ary tr Z h t0 .double [(.double (FP.dadd x00 (FP.ddiv (FP.dmul k0 k0) (FP.i2d p2)))), (.double (FP.dadd x01 (FP.ddiv (FP.dmul k0 k1) (FP.i2d p2)))), (.double (FP.dadd x02 (FP.ddiv (FP.dmul k0 k2) (FP.i2d p2))))]
set_option maxRecDepth 65536 in
set_option maxHeartbeats 40000000 in
theorem rm5 (l : Launch) (Z : State) (a0 : Array Value) (hw : ∀ d ∈ tables_1, d.before a0 Z = true) (ws : List Jvm.Cond) (o0 : Addr) (o1 : Addr) (p2 : Int32) (voltage_o0 : Addr) (t0 : Addr) (t1 : Addr) (t2 : Addr) (x00 : UInt64) (x01 : UInt64) (x02 : UInt64) (x10 : UInt64) (x11 : UInt64) (x12 : UInt64) (x20 : UInt64) (x21 : UInt64) (x22 : UInt64) (k0 : UInt64) (k1 : UInt64) (k2 : UInt64) (h0 : Heap) (n0 : Nat) (Z0 : n0 ≤ h0.size) (F_o0_voltage : Fld Z h0 o0 "com/example/volts_to_velocity/voltstovelocity/ScoreNoise" "voltage" "[[D" (.ref voltage_o0)) (V_voltage_o0 : Ary (ovA Z .double "[D") Z h0 voltage_o0 (.array .double) [(.ref t0), (.ref t1), (.ref t2)]) (V_t0 : Ary tr Z h0 t0 .double [(.double x00), (.double x01), (.double x02)]) (V_t1 : Ary tr Z h0 t1 .double [(.double x10), (.double x11), (.double x12)]) (V_t2 : Ary tr Z h0 t2 .double [(.double x20), (.double x21), (.double x22)]) (V_o1 : Ary tr Z h0 o1 .double [(.double k0), (.double k1), (.double k2)]) (hn30_1_6 : (NoNaN64 (FP.dmul k0 k0))) (hn33_1_6 : (NoNaN64 (FP.ddiv (FP.dmul k0 k0) (FP.i2d p2)))) (hn34_1_6 : (NoNaN64 (FP.dadd x00 (FP.ddiv (FP.dmul k0 k0) (FP.i2d p2))))) (g_t0 : n0 ≤ t0) (ne_voltage_o0_t0 : voltage_o0 ≠ t0) (ne_o1_t0 : o1 ≠ t0) (ne_t1_t0 : t1 ≠ t0) (ne_t2_t0 : t2 ≠ t0) (hn30_2_6 : (NoNaN64 (FP.dmul k0 k1))) (hn33_2_6 : (NoNaN64 (FP.ddiv (FP.dmul k0 k1) (FP.i2d p2)))) (hn34_2_6 : (NoNaN64 (FP.dadd x01 (FP.ddiv (FP.dmul k0 k1) (FP.i2d p2))))) (hn30_3_6 : (NoNaN64 (FP.dmul k0 k2))) (hn33_3_6 : (NoNaN64 (FP.ddiv (FP.dmul k0 k2) (FP.i2d p2)))) (hn34_3_6 : (NoNaN64 (FP.dadd x02 (FP.ddiv (FP.dmul k0 k2) (FP.i2d p2))))) (hn30_4_6 : (NoNaN64 (FP.dmul k1 k0))) (hn33_4_6 : (NoNaN64 (FP.ddiv (FP.dmul k1 k0) (FP.i2d p2)))) (hn34_4_6 : (NoNaN64 (FP.dadd x10 (FP.ddiv (FP.dmul k1 k0) (FP.i2d p2))))) (g_t1 : n0 ≤ t1) (ne_voltage_o0_t1 : voltage_o0 ≠ t1) (ne_o1_t1 : o1 ≠ t1) (ne_t2_t1 : t2 ≠ t1) (hn30_5_6 : (NoNaN64 (FP.dmul k1 k1))) (hn33_5_6 : (NoNaN64 (FP.ddiv (FP.dmul k1 k1) (FP.i2d p2)))) (hn34_5_6 : (NoNaN64 (FP.dadd x11 (FP.ddiv (FP.dmul k1 k1) (FP.i2d p2))))) (hn30_6_6 : (NoNaN64 (FP.dmul k1 k2))) (hn33_6_6 : (NoNaN64 (FP.ddiv (FP.dmul k1 k2) (FP.i2d p2)))) (hn34_6_6 : (NoNaN64 (FP.dadd x12 (FP.ddiv (FP.dmul k1 k2) (FP.i2d p2))))) (hn30_7_6 : (NoNaN64 (FP.dmul k2 k0))) (hn33_7_6 : (NoNaN64 (FP.ddiv (FP.dmul k2 k0) (FP.i2d p2)))) (hn34_7_6 : (NoNaN64 (FP.dadd x20 (FP.ddiv (FP.dmul k2 k0) (FP.i2d p2))))) (g_t2 : n0 ≤ t2) (ne_voltage_o0_t2 : voltage_o0 ≠ t2) (ne_o1_t2 : o1 ≠ t2) (hn30_8_6 : (NoNaN64 (FP.dmul k2 k1))) (hn33_8_6 : (NoNaN64 (FP.ddiv (FP.dmul k2 k1) (FP.i2d p2)))) (hn34_8_6 : (NoNaN64 (FP.dadd x21 (FP.ddiv (FP.dmul k2 k1) (FP.i2d p2))))) (hn30_9_6 : (NoNaN64 (FP.dmul k2 k2))) (hn33_9_6 : (NoNaN64 (FP.ddiv (FP.dmul k2 k2) (FP.i2d p2)))) (hn34_9_6 : (NoNaN64 (FP.dadd x22 (FP.ddiv (FP.dmul k2 k2) (FP.i2d p2))))) (ne_o0_t2 : o0 ≠ t2) (ne_o0_t1 : o0 ≠ t1) (ne_o0_t0 : o0 ≠ t0) :
    MetFree l (⟨"com/example/volts_to_velocity/voltstovelocity/ScoreNoise", "addVoltage", "([DI)V"⟩ : MethodName) (head1 (Jvm.Cond.code (⟨"com/example/volts_to_velocity/voltstovelocity/ScoreNoise", "addVoltage", "([DI)V"⟩ : MethodName) prog_20_method_3_code 3 none :: ws) ({ frames := 1, cells := 0, slots := 0, locals := 16 } : Room)) (fun a U => a = #[(.ref o0), (.ref o1), (.int p2)] ∧ Z.Warmed39 U.vm ∧ U.heap = h0) (fun _ _ _ _ _ => True) (fun _ U o U' => ∃ v L, o = .returned v ∧ Q5 Z o0 o1 p2 voltage_o0 t0 t1 t2 x00 x01 x02 x10 x11 x12 x20 x21 x22 k0 k1 k2 h0 n0 v U'.heap L ∧ FrameEnd U o U' L ({ frames := 1, cells := 0, slots := 0, locals := 16 } : Room).cells ({ frames := 1, cells := 0, slots := 0, locals := 16 } : Room).slots) := by
  refine MetFree.of_bodySF (plainFor_of_name pn_com_example_volts_to_velocity_voltstovelocity_ScoreNoise) hisR ?_
  intro p e s m args below meth c s₁ Bd hml0 hP hK
  obtain ⟨rfl, hZ, hh⟩ := hP
  have hx := Bd.exec
  have hby := Bd.bytes
  have hml : c.maxLocals = 3 := hml0
  have hown : s.vm.findClass "com/example/volts_to_velocity/voltstovelocity/ScoreNoise" = some m.cls := findClass_of_methodNamed Bd.named
  have hnm := (name_of_methodNamed Bd.named Bd.method).1
  have X0 : Stand p l e ({ frames := 1, cells := 0, slots := 0, locals := 16 } : Room) s m #[(.ref o0), (.ref o1), (.int p2)] below meth c s₁ [] 0 0 := Stand.of_body Bd
  have eH0 : s₁.heap = h0 := by rw [← hh, Bd.state]; rfl
  have N0 := Fr.nil n0
  have K0 := Keep.refl h0 [t2, t1, t0]
  show Gt p.tables e below (fun o U' => ∃ v L, o = .returned v ∧ Q5 Z o0 o1 p2 voltage_o0 t0 t1 t2 x00 x01 x02 x10 x11 x12 x20 x21 x22 k0 k1 k2 h0 n0 v U'.heap L ∧ FrameEnd s o U' L ({ frames := 1, cells := 0, slots := 0, locals := 16 } : Room).cells ({ frames := 1, cells := 0, slots := 0, locals := 16 } : Room).slots) _
  refine own_cast (ef5 m o0 o1 p2) ?_
  refine own_aloadN X0 hx hby rfl rfl d5_0 (pc' := 1) rfl ?_
  refine own_getF X0 hx hby hZ hown (host := "") (Or.inl (hw _ (List.mem_of_getElem? (i := 15) rfl))) Via.refl eH0 F_o0_voltage d5_1 (pc' := 4) rfl (fun T1 X1 eH1 => ?_)
  refine own_aloadN X1 hx hby rfl rfl d5_4 (pc' := 5) rfl ?_
  refine own_iloadN X1 hx hby rfl d5_5 (pc' := 6) rfl ?_
  refine own_static X1 hx hby hZ (y := (⟨"com/example/volts_to_velocity/voltstovelocity/ScoreNoise", "addOuter", "([[D[DI)V"⟩ : MethodName)) (rest := []) hown (hw _ (List.mem_of_getElem? (i := 22) rfl)) (hw _ (List.mem_of_getElem? (i := 23) rfl)) (hw _ (List.mem_of_getElem? (i := 24) rfl)) (hw _ (List.mem_of_getElem? (i := 4) rfl)) (by decide) (rm4 l Z a0 hw [] voltage_o0 o1 p2 t0 t1 t2 x00 x01 x02 x10 x11 x12 x20 x21 x22 k0 k1 k2 h0 n0 Z0 V_voltage_o0 V_t0 V_t1 V_t2 V_o1 hn30_1_6 hn33_1_6 hn34_1_6 g_t0 ne_voltage_o0_t0 ne_o1_t0 ne_t1_t0 ne_t2_t0 hn30_2_6 hn33_2_6 hn34_2_6 hn30_3_6 hn33_3_6 hn34_3_6 hn30_4_6 hn33_4_6 hn34_4_6 g_t1 ne_voltage_o0_t1 ne_o1_t1 ne_t2_t1 hn30_5_6 hn33_5_6 hn34_5_6 hn30_6_6 hn33_6_6 hn34_6_6 hn30_7_6 hn33_7_6 hn34_7_6 g_t2 ne_voltage_o0_t2 ne_o1_t2 hn30_8_6 hn33_8_6 hn34_8_6 hn30_9_6 hn33_9_6 hn34_9_6) eH1 (by rw [hml]; rfl) (argsL := [(.ref voltage_o0), (.ref o1), (.int p2)]) rfl (lenOf pd_0 rfl) rfl d5_6 (pc' := 9) rfl (by decide) (W := 0) (Nat.le_of_eq rfl) (by decide) (by decide) (by decide) (fun T2 h2 Lc2 v2r X2 eH2 hQ2 => ?_)
  obtain ⟨rfl, Nq2, Kq2, gq2_0, gq2_1, gq2_2⟩ := hQ2
  have N2 := Fr.app N0 Nq2
  replace F_o0_voltage := F_o0_voltage.keep Kq2 (ninS ne_o0_t0 (ninS ne_o0_t1 (ninS ne_o0_t2 nin0)))
  replace V_o1 := V_o1.keep Kq2 (ninS ne_o1_t0 (ninS ne_o1_t1 (ninS ne_o1_t2 nin0)))
  replace V_voltage_o0 := V_voltage_o0.keep Kq2 (ninS ne_voltage_o0_t0 (ninS ne_voltage_o0_t1 (ninS ne_voltage_o0_t2 nin0)))
  replace K0 := K0.trans Kq2 (allS (Or.inl (by simp)) (allS (Or.inl (by simp)) (allS (Or.inl (by simp)) all0)))
  have V_t0 := gq2_0
  have V_t1 := gq2_1
  have V_t2 := gq2_2
  replace Z0 := Nat.le_trans Z0 Kq2.1
  exact own_retV X2 hx hby Bd.notSynchronized Bd.returns d5_9 (by decide) (by decide) eH2 ⟨rfl, N2, K0, V_t2, V_t1, V_t0⟩
theorem ef6 (m : MethodId) (x0 : Addr) (x1 : UInt64) (x2 : UInt64) : entryFrame m #[(.ref x0), (.double x1), (.double x2)] 8 = mkF m 0 #[.val (.ref x0), .val (.double x1), .second, .val (.double x2), .second, .unset, .unset, .unset] [] := by first | (simp [entryFrame, mkF, argsToLocals, Value.category]; done) | rfl
def Q6 (Z : State) (o0 : Addr) (f1 : UInt64) (f2 : UInt64) (velocity_o0 : Addr) (t0 : Addr) (t1 : Addr) (t2 : Addr) (x00 : UInt64) (x01 : UInt64) (x02 : UInt64) (x10 : UInt64) (x11 : UInt64) (x12 : UInt64) (x20 : UInt64) (x21 : UInt64) (x22 : UInt64) (voltage_o0 : Addr) (u0 : Addr) (u1 : Addr) (u2 : Addr) (y00 : UInt64) (y01 : UInt64) (y02 : UInt64) (y10 : UInt64) (y11 : UInt64) (y12 : UInt64) (y20 : UInt64) (y21 : UInt64) (y22 : UInt64) (h0 : Heap) (n0 : Nat) (v : Option Value) (h : Heap) (L : List Loc) : Prop := ∃ b1 b1x b1y b1z : Addr, v = some (.ref b1) ∧ Fr n0 L ∧ Keep h0 h [] ∧ h0.size ≤ b1 ∧ h0.size ≤ b1x ∧ h0.size ≤ b1y ∧ h0.size ≤ b1z ∧ b1 ≠ b1x ∧ b1 ≠ b1y ∧ b1 ≠ b1z ∧ b1x ≠ b1y ∧ b1x ≠ b1z ∧ b1y ≠ b1z ∧ Exa Z h b1 "[[D" ∧ Ary (ovA Z .double "[D") Z h b1 (.array .double) [(.ref b1x), (.ref b1y), (.ref b1z)] ∧ Exa Z h b1x "[D" ∧ Ary tr Z h b1x .double [(.double (FP.dadd (FP.dmul f1 x00) (FP.dmul f2 y00))), (.double (FP.dadd (FP.dmul f1 x01) (FP.dmul f2 y01))), (.double (FP.dadd (FP.dmul f1 x02) (FP.dmul f2 y02)))] ∧ Exa Z h b1y "[D" ∧ Ary tr Z h b1y .double [(.double (FP.dadd (FP.dmul f1 x10) (FP.dmul f2 y10))), (.double (FP.dadd (FP.dmul f1 x11) (FP.dmul f2 y11))), (.double (FP.dadd (FP.dmul f1 x12) (FP.dmul f2 y12)))] ∧ Exa Z h b1z "[D" ∧ Ary tr Z h b1z .double [(.double (FP.dadd (FP.dmul f1 x20) (FP.dmul f2 y20))), (.double (FP.dadd (FP.dmul f1 x21) (FP.dmul f2 y21))), (.double (FP.dadd (FP.dmul f1 x22) (FP.dmul f2 y22)))]
set_option maxRecDepth 65536 in
set_option maxHeartbeats 40000000 in
theorem rm6 (l : Launch) (Z : State) (a0 : Array Value) (hw : ∀ d ∈ tables_1, d.before a0 Z = true) (ws : List Jvm.Cond) (o0 : Addr) (f1 : UInt64) (f2 : UInt64) (velocity_o0 : Addr) (t0 : Addr) (t1 : Addr) (t2 : Addr) (x00 : UInt64) (x01 : UInt64) (x02 : UInt64) (x10 : UInt64) (x11 : UInt64) (x12 : UInt64) (x20 : UInt64) (x21 : UInt64) (x22 : UInt64) (voltage_o0 : Addr) (u0 : Addr) (u1 : Addr) (u2 : Addr) (y00 : UInt64) (y01 : UInt64) (y02 : UInt64) (y10 : UInt64) (y11 : UInt64) (y12 : UInt64) (y20 : UInt64) (y21 : UInt64) (y22 : UInt64) (h0 : Heap) (n0 : Nat) (Z0 : n0 ≤ h0.size) (F_o0_velocity : Fld Z h0 o0 "com/example/volts_to_velocity/voltstovelocity/ScoreNoise" "velocity" "[[D" (.ref velocity_o0)) (V_velocity_o0 : Ary (ovA Z .double "[D") Z h0 velocity_o0 (.array .double) [(.ref t0), (.ref t1), (.ref t2)]) (V_t0 : Ary tr Z h0 t0 .double [(.double x00), (.double x01), (.double x02)]) (V_t1 : Ary tr Z h0 t1 .double [(.double x10), (.double x11), (.double x12)]) (V_t2 : Ary tr Z h0 t2 .double [(.double x20), (.double x21), (.double x22)]) (F_o0_voltage : Fld Z h0 o0 "com/example/volts_to_velocity/voltstovelocity/ScoreNoise" "voltage" "[[D" (.ref voltage_o0)) (V_voltage_o0 : Ary (ovA Z .double "[D") Z h0 voltage_o0 (.array .double) [(.ref u0), (.ref u1), (.ref u2)]) (V_u0 : Ary tr Z h0 u0 .double [(.double y00), (.double y01), (.double y02)]) (V_u1 : Ary tr Z h0 u1 .double [(.double y10), (.double y11), (.double y12)]) (V_u2 : Ary tr Z h0 u2 .double [(.double y20), (.double y21), (.double y22)]) (hn44_1 : (NoNaN64 (FP.dmul f1 x00))) (hn56_1 : (NoNaN64 (FP.dmul f2 y00))) (hn57_1 : (NoNaN64 (FP.dadd (FP.dmul f1 x00) (FP.dmul f2 y00)))) (hn44_2 : (NoNaN64 (FP.dmul f1 x01))) (hn56_2 : (NoNaN64 (FP.dmul f2 y01))) (hn57_2 : (NoNaN64 (FP.dadd (FP.dmul f1 x01) (FP.dmul f2 y01)))) (hn44_3 : (NoNaN64 (FP.dmul f1 x02))) (hn56_3 : (NoNaN64 (FP.dmul f2 y02))) (hn57_3 : (NoNaN64 (FP.dadd (FP.dmul f1 x02) (FP.dmul f2 y02)))) (hn44_4 : (NoNaN64 (FP.dmul f1 x10))) (hn56_4 : (NoNaN64 (FP.dmul f2 y10))) (hn57_4 : (NoNaN64 (FP.dadd (FP.dmul f1 x10) (FP.dmul f2 y10)))) (hn44_5 : (NoNaN64 (FP.dmul f1 x11))) (hn56_5 : (NoNaN64 (FP.dmul f2 y11))) (hn57_5 : (NoNaN64 (FP.dadd (FP.dmul f1 x11) (FP.dmul f2 y11)))) (hn44_6 : (NoNaN64 (FP.dmul f1 x12))) (hn56_6 : (NoNaN64 (FP.dmul f2 y12))) (hn57_6 : (NoNaN64 (FP.dadd (FP.dmul f1 x12) (FP.dmul f2 y12)))) (hn44_7 : (NoNaN64 (FP.dmul f1 x20))) (hn56_7 : (NoNaN64 (FP.dmul f2 y20))) (hn57_7 : (NoNaN64 (FP.dadd (FP.dmul f1 x20) (FP.dmul f2 y20)))) (hn44_8 : (NoNaN64 (FP.dmul f1 x21))) (hn56_8 : (NoNaN64 (FP.dmul f2 y21))) (hn57_8 : (NoNaN64 (FP.dadd (FP.dmul f1 x21) (FP.dmul f2 y21)))) (hn44_9 : (NoNaN64 (FP.dmul f1 x22))) (hn56_9 : (NoNaN64 (FP.dmul f2 y22))) (hn57_9 : (NoNaN64 (FP.dadd (FP.dmul f1 x22) (FP.dmul f2 y22)))) :
    MetFree l (⟨"com/example/volts_to_velocity/voltstovelocity/ScoreNoise", "covariance", "(DD)[[D"⟩ : MethodName) (head1 (Jvm.Cond.code (⟨"com/example/volts_to_velocity/voltstovelocity/ScoreNoise", "covariance", "(DD)[[D"⟩ : MethodName) prog_20_method_6_code 8 (some (.array (.array .double))) :: ws) ({ frames := 0, cells := 4, slots := 12, locals := 0 } : Room)) (fun a U => a = #[(.ref o0), (.double f1), (.double f2)] ∧ Z.Warmed39 U.vm ∧ U.heap = h0) (fun _ _ _ _ _ => True) (fun _ U o U' => ∃ v L, o = .returned v ∧ Q6 Z o0 f1 f2 velocity_o0 t0 t1 t2 x00 x01 x02 x10 x11 x12 x20 x21 x22 voltage_o0 u0 u1 u2 y00 y01 y02 y10 y11 y12 y20 y21 y22 h0 n0 v U'.heap L ∧ FrameEnd U o U' L ({ frames := 0, cells := 4, slots := 12, locals := 0 } : Room).cells ({ frames := 0, cells := 4, slots := 12, locals := 0 } : Room).slots) := by
  refine MetFree.of_bodySF (plainFor_of_name pn_com_example_volts_to_velocity_voltstovelocity_ScoreNoise) hisR ?_
  intro p e s m args below meth c s₁ Bd hml0 hP hK
  obtain ⟨rfl, hZ, hh⟩ := hP
  have hx := Bd.exec
  have hby := Bd.bytes
  have hml : c.maxLocals = 8 := hml0
  have hown : s.vm.findClass "com/example/volts_to_velocity/voltstovelocity/ScoreNoise" = some m.cls := findClass_of_methodNamed Bd.named
  have hnm := (name_of_methodNamed Bd.named Bd.method).1
  have X0 : Stand p l e ({ frames := 0, cells := 4, slots := 12, locals := 0 } : Room) s m #[(.ref o0), (.double f1), (.double f2)] below meth c s₁ [] 0 0 := Stand.of_body Bd
  have eH0 : s₁.heap = h0 := by rw [← hh, Bd.state]; rfl
  have N0 := Fr.nil n0
  have K0 := Keep.refl h0 []
  show Gt p.tables e below (fun o U' => ∃ v L, o = .returned v ∧ Q6 Z o0 f1 f2 velocity_o0 t0 t1 t2 x00 x01 x02 x10 x11 x12 x20 x21 x22 voltage_o0 u0 u1 u2 y00 y01 y02 y10 y11 y12 y20 y21 y22 h0 n0 v U'.heap L ∧ FrameEnd s o U' L ({ frames := 0, cells := 4, slots := 12, locals := 0 } : Room).cells ({ frames := 0, cells := 4, slots := 12, locals := 0 } : Room).slots) _
  refine own_cast (ef6 m o0 f1 f2) ?_
  refine own_iconst X0 hx hby (v := (3 : Int32)) (by decide) d6_0 (pc' := 1) rfl ?_
  refine own_iconst X0 hx hby (v := (3 : Int32)) (by decide) d6_1 (pc' := 2) rfl ?_
  refine own_grid3 X0 hx hby hZ hown (ty := .double) (C := "[D") (ad := "[[D") (by decide) (by decide) (hw _ (List.mem_of_getElem? (i := 11) rfl)) (hw _ (List.mem_of_getElem? (i := 12) rfl)) (hw _ (List.mem_of_getElem? (i := 0) rfl)) eH0 d6_2 (pc' := 6) rfl (by decide) (by decide) (by decide) (by decide) (fun T1 h1 b1 b1x b1y b1z X1 eH1 E1 g1 lt1_1 lt2_1 lt3_1 E_b1 V_b1 E_b1x E_b1y E_b1z V_b1x V_b1y V_b1z => ?_)
  have g_b1 : n0 ≤ b1 := g1 ▸ Z0
  have sz_b1 : h0.size ≤ b1 := g1 ▸ K0.1
  have ne_o0_b1 : o0 ≠ b1 := Nat.ne_of_lt (g1 ▸ F_o0_velocity.lt)
  have ne_velocity_o0_b1 : velocity_o0 ≠ b1 := Nat.ne_of_lt (g1 ▸ V_velocity_o0.lt)
  have ne_t0_b1 : t0 ≠ b1 := Nat.ne_of_lt (g1 ▸ V_t0.lt)
  have ne_t1_b1 : t1 ≠ b1 := Nat.ne_of_lt (g1 ▸ V_t1.lt)
  have ne_t2_b1 : t2 ≠ b1 := Nat.ne_of_lt (g1 ▸ V_t2.lt)
  have ne_voltage_o0_b1 : voltage_o0 ≠ b1 := Nat.ne_of_lt (g1 ▸ V_voltage_o0.lt)
  have ne_u0_b1 : u0 ≠ b1 := Nat.ne_of_lt (g1 ▸ V_u0.lt)
  have ne_u1_b1 : u1 ≠ b1 := Nat.ne_of_lt (g1 ▸ V_u1.lt)
  have ne_u2_b1 : u2 ≠ b1 := Nat.ne_of_lt (g1 ▸ V_u2.lt)
  have g_b1x : n0 ≤ b1x := Nat.le_trans g_b1 (Nat.le_of_lt lt1_1)
  have sz_b1x : h0.size ≤ b1x := Nat.le_trans sz_b1 (Nat.le_of_lt lt1_1)
  have ne_b1_b1x : b1 ≠ b1x := Nat.ne_of_lt lt1_1
  have ne_o0_b1x : o0 ≠ b1x := Nat.ne_of_lt (Nat.lt_trans (g1 ▸ F_o0_velocity.lt) lt1_1)
  have ne_velocity_o0_b1x : velocity_o0 ≠ b1x := Nat.ne_of_lt (Nat.lt_trans (g1 ▸ V_velocity_o0.lt) lt1_1)
  have ne_t0_b1x : t0 ≠ b1x := Nat.ne_of_lt (Nat.lt_trans (g1 ▸ V_t0.lt) lt1_1)
  have ne_t1_b1x : t1 ≠ b1x := Nat.ne_of_lt (Nat.lt_trans (g1 ▸ V_t1.lt) lt1_1)
  have ne_t2_b1x : t2 ≠ b1x := Nat.ne_of_lt (Nat.lt_trans (g1 ▸ V_t2.lt) lt1_1)
  have ne_voltage_o0_b1x : voltage_o0 ≠ b1x := Nat.ne_of_lt (Nat.lt_trans (g1 ▸ V_voltage_o0.lt) lt1_1)
  have ne_u0_b1x : u0 ≠ b1x := Nat.ne_of_lt (Nat.lt_trans (g1 ▸ V_u0.lt) lt1_1)
  have ne_u1_b1x : u1 ≠ b1x := Nat.ne_of_lt (Nat.lt_trans (g1 ▸ V_u1.lt) lt1_1)
  have ne_u2_b1x : u2 ≠ b1x := Nat.ne_of_lt (Nat.lt_trans (g1 ▸ V_u2.lt) lt1_1)
  have g_b1y : n0 ≤ b1y := Nat.le_trans g_b1 (Nat.le_of_lt (Nat.lt_trans lt1_1 lt2_1))
  have sz_b1y : h0.size ≤ b1y := Nat.le_trans sz_b1 (Nat.le_of_lt (Nat.lt_trans lt1_1 lt2_1))
  have ne_b1_b1y : b1 ≠ b1y := Nat.ne_of_lt (Nat.lt_trans lt1_1 lt2_1)
  have ne_o0_b1y : o0 ≠ b1y := Nat.ne_of_lt (Nat.lt_trans (g1 ▸ F_o0_velocity.lt) (Nat.lt_trans lt1_1 lt2_1))
  have ne_velocity_o0_b1y : velocity_o0 ≠ b1y := Nat.ne_of_lt (Nat.lt_trans (g1 ▸ V_velocity_o0.lt) (Nat.lt_trans lt1_1 lt2_1))
  have ne_t0_b1y : t0 ≠ b1y := Nat.ne_of_lt (Nat.lt_trans (g1 ▸ V_t0.lt) (Nat.lt_trans lt1_1 lt2_1))
  have ne_t1_b1y : t1 ≠ b1y := Nat.ne_of_lt (Nat.lt_trans (g1 ▸ V_t1.lt) (Nat.lt_trans lt1_1 lt2_1))
  have ne_t2_b1y : t2 ≠ b1y := Nat.ne_of_lt (Nat.lt_trans (g1 ▸ V_t2.lt) (Nat.lt_trans lt1_1 lt2_1))
  have ne_voltage_o0_b1y : voltage_o0 ≠ b1y := Nat.ne_of_lt (Nat.lt_trans (g1 ▸ V_voltage_o0.lt) (Nat.lt_trans lt1_1 lt2_1))
  have ne_u0_b1y : u0 ≠ b1y := Nat.ne_of_lt (Nat.lt_trans (g1 ▸ V_u0.lt) (Nat.lt_trans lt1_1 lt2_1))
  have ne_u1_b1y : u1 ≠ b1y := Nat.ne_of_lt (Nat.lt_trans (g1 ▸ V_u1.lt) (Nat.lt_trans lt1_1 lt2_1))
  have ne_u2_b1y : u2 ≠ b1y := Nat.ne_of_lt (Nat.lt_trans (g1 ▸ V_u2.lt) (Nat.lt_trans lt1_1 lt2_1))
  have g_b1z : n0 ≤ b1z := Nat.le_trans g_b1 (Nat.le_of_lt (Nat.lt_trans (Nat.lt_trans lt1_1 lt2_1) lt3_1))
  have sz_b1z : h0.size ≤ b1z := Nat.le_trans sz_b1 (Nat.le_of_lt (Nat.lt_trans (Nat.lt_trans lt1_1 lt2_1) lt3_1))
  have ne_b1_b1z : b1 ≠ b1z := Nat.ne_of_lt (Nat.lt_trans (Nat.lt_trans lt1_1 lt2_1) lt3_1)
  have ne_o0_b1z : o0 ≠ b1z := Nat.ne_of_lt (Nat.lt_trans (g1 ▸ F_o0_velocity.lt) (Nat.lt_trans (Nat.lt_trans lt1_1 lt2_1) lt3_1))
  have ne_velocity_o0_b1z : velocity_o0 ≠ b1z := Nat.ne_of_lt (Nat.lt_trans (g1 ▸ V_velocity_o0.lt) (Nat.lt_trans (Nat.lt_trans lt1_1 lt2_1) lt3_1))
  have ne_t0_b1z : t0 ≠ b1z := Nat.ne_of_lt (Nat.lt_trans (g1 ▸ V_t0.lt) (Nat.lt_trans (Nat.lt_trans lt1_1 lt2_1) lt3_1))
  have ne_t1_b1z : t1 ≠ b1z := Nat.ne_of_lt (Nat.lt_trans (g1 ▸ V_t1.lt) (Nat.lt_trans (Nat.lt_trans lt1_1 lt2_1) lt3_1))
  have ne_t2_b1z : t2 ≠ b1z := Nat.ne_of_lt (Nat.lt_trans (g1 ▸ V_t2.lt) (Nat.lt_trans (Nat.lt_trans lt1_1 lt2_1) lt3_1))
  have ne_voltage_o0_b1z : voltage_o0 ≠ b1z := Nat.ne_of_lt (Nat.lt_trans (g1 ▸ V_voltage_o0.lt) (Nat.lt_trans (Nat.lt_trans lt1_1 lt2_1) lt3_1))
  have ne_u0_b1z : u0 ≠ b1z := Nat.ne_of_lt (Nat.lt_trans (g1 ▸ V_u0.lt) (Nat.lt_trans (Nat.lt_trans lt1_1 lt2_1) lt3_1))
  have ne_u1_b1z : u1 ≠ b1z := Nat.ne_of_lt (Nat.lt_trans (g1 ▸ V_u1.lt) (Nat.lt_trans (Nat.lt_trans lt1_1 lt2_1) lt3_1))
  have ne_u2_b1z : u2 ≠ b1z := Nat.ne_of_lt (Nat.lt_trans (g1 ▸ V_u2.lt) (Nat.lt_trans (Nat.lt_trans lt1_1 lt2_1) lt3_1))
  have ne_b1x_b1y := Nat.ne_of_lt lt2_1
  have ne_b1y_b1z := Nat.ne_of_lt lt3_1
  have ne_b1x_b1z := Nat.ne_of_lt (Nat.lt_trans lt2_1 lt3_1)
  replace F_o0_velocity := F_o0_velocity.ext E1
  replace F_o0_voltage := F_o0_voltage.ext E1
  replace V_velocity_o0 := V_velocity_o0.ext E1
  replace V_t0 := V_t0.ext E1
  replace V_t1 := V_t1.ext E1
  replace V_t2 := V_t2.ext E1
  replace V_voltage_o0 := V_voltage_o0.ext E1
  replace V_u0 := V_u0.ext E1
  replace V_u1 := V_u1.ext E1
  replace V_u2 := V_u2.ext E1
  replace K0 := K0.ext E1
  replace Z0 := Nat.le_trans Z0 E1.1
  have V_b1x : Ary tr Z h1 b1x .double [(.double (0 : UInt64)), (.double (0 : UInt64)), (.double (0 : UInt64))] := V_b1x
  have V_b1y : Ary tr Z h1 b1y .double [(.double (0 : UInt64)), (.double (0 : UInt64)), (.double (0 : UInt64))] := V_b1y
  have V_b1z : Ary tr Z h1 b1z .double [(.double (0 : UInt64)), (.double (0 : UInt64)), (.double (0 : UInt64))] := V_b1z
  refine own_astore X1 hx hby rfl (L' := #[.val (.ref o0), .val (.double f1), .second, .val (.double f2), .second, .val (.ref b1), .unset, .unset]) rfl d6_6 (pc' := 8) rfl ?_
  refine own_iconst X1 hx hby (v := (0 : Int32)) (by decide) d6_8 (pc' := 9) rfl ?_
  refine own_istore X1 hx hby (L' := #[.val (.ref o0), .val (.double f1), .second, .val (.double f2), .second, .val (.ref b1), .val (.int (0 : Int32)), .unset]) rfl d6_9 (pc' := 11) rfl ?_
  refine own_iload X1 hx hby rfl d6_11 (pc' := 13) rfl ?_
  refine own_iconst X1 hx hby (v := (3 : Int32)) (by decide) d6_13 (pc' := 14) rfl ?_
  refine own_icF X1 hx hby d6_14 (by decide) (pc' := 17) rfl ?_
  refine own_iconst X1 hx hby (v := (0 : Int32)) (by decide) d6_17 (pc' := 18) rfl ?_
  refine own_istore X1 hx hby (L' := #[.val (.ref o0), .val (.double f1), .second, .val (.double f2), .second, .val (.ref b1), .val (.int (0 : Int32)), .val (.int (0 : Int32))]) rfl d6_18 (pc' := 20) rfl ?_
  refine own_iload X1 hx hby rfl d6_20 (pc' := 22) rfl ?_
  refine own_iconst X1 hx hby (v := (3 : Int32)) (by decide) d6_22 (pc' := 23) rfl ?_
  refine own_icF X1 hx hby d6_23 (by decide) (pc' := 26) rfl ?_
  refine own_aload X1 hx hby rfl rfl d6_26 (pc' := 28) rfl ?_
  refine own_iload X1 hx hby rfl d6_28 (pc' := 30) rfl ?_
  refine own_aaload X1 hx hby hZ eH1 V_b1 rfl (by decide) (v := (.ref b1x)) rfl d6_30 (pc' := 31) rfl ?_
  refine own_iload X1 hx hby rfl d6_31 (pc' := 33) rfl ?_
  refine own_dloadN X1 hx hby rfl d6_33 (pc' := 34) rfl ?_
  refine own_aloadN X1 hx hby rfl rfl d6_34 (pc' := 35) rfl ?_
  refine own_getF X1 hx hby hZ hown (host := "") (Or.inl (hw _ (List.mem_of_getElem? (i := 13) rfl))) Via.refl eH1 F_o0_velocity d6_35 (pc' := 38) rfl (fun T2 X2 eH2 => ?_)
  refine own_iload X2 hx hby rfl d6_38 (pc' := 40) rfl ?_
  refine own_aaload X2 hx hby hZ eH2 V_velocity_o0 rfl (by decide) (v := (.ref t0)) rfl d6_40 (pc' := 41) rfl ?_
  refine own_iload X2 hx hby rfl d6_41 (pc' := 43) rfl ?_
  refine own_daload X2 hx hby hZ eH2 V_t0 (by decide) (v := (.double x00)) rfl d6_43 (pc' := 44) rfl ?_
  refine own_dmul X2 hx hby hn44_1 rfl d6_44 (pc' := 45) rfl ?_
  refine own_dloadN X2 hx hby rfl d6_45 (pc' := 46) rfl ?_
  refine own_aloadN X2 hx hby rfl rfl d6_46 (pc' := 47) rfl ?_
  refine own_getF X2 hx hby hZ hown (host := "") (Or.inl (hw _ (List.mem_of_getElem? (i := 15) rfl))) Via.refl eH2 F_o0_voltage d6_47 (pc' := 50) rfl (fun T3 X3 eH3 => ?_)
  refine own_iload X3 hx hby rfl d6_50 (pc' := 52) rfl ?_
  refine own_aaload X3 hx hby hZ eH3 V_voltage_o0 rfl (by decide) (v := (.ref u0)) rfl d6_52 (pc' := 53) rfl ?_
  refine own_iload X3 hx hby rfl d6_53 (pc' := 55) rfl ?_
  refine own_daload X3 hx hby hZ eH3 V_u0 (by decide) (v := (.double y00)) rfl d6_55 (pc' := 56) rfl ?_
  refine own_dmul X3 hx hby hn56_1 rfl d6_56 (pc' := 57) rfl ?_
  refine own_dadd X3 hx hby hn57_1 rfl d6_57 (pc' := 58) rfl ?_
  refine own_dastore X3 hx hby hZ eH3 V_b1x (by decide) (n := 0) (by decide) (of_decide_eq_true rfl) d6_58 (pc' := 59) rfl (fun T4 h4 X4 eH4 W4 => ?_)
  replace F_o0_velocity := F_o0_velocity.other W4 (Or.inl ne_o0_b1x)
  replace F_o0_voltage := F_o0_voltage.other W4 (Or.inl ne_o0_b1x)
  replace V_velocity_o0 := V_velocity_o0.other W4 ne_velocity_o0_b1x
  replace V_t0 := V_t0.other W4 ne_t0_b1x
  replace V_t1 := V_t1.other W4 ne_t1_b1x
  replace V_t2 := V_t2.other W4 ne_t2_b1x
  replace V_voltage_o0 := V_voltage_o0.other W4 ne_voltage_o0_b1x
  replace V_u0 := V_u0.other W4 ne_u0_b1x
  replace V_u1 := V_u1.other W4 ne_u1_b1x
  replace V_u2 := V_u2.other W4 ne_u2_b1x
  replace E_b1x := E_b1x.wr W4
  replace E_b1y := E_b1y.wr W4
  replace V_b1y := V_b1y.other W4 (Ne.symm ne_b1x_b1y)
  replace E_b1z := E_b1z.wr W4
  replace V_b1z := V_b1z.other W4 (Ne.symm ne_b1x_b1z)
  replace E_b1 := E_b1.wr W4
  replace V_b1 := V_b1.other W4 ne_b1_b1x
  have N4 := Fr.snoc X4 N0 g_b1x
  replace K0 := K0.wr W4 (Or.inr sz_b1x)
  replace Z0 := Nat.le_trans Z0 (Nat.le_of_eq W4.size.symm)
  replace V_b1x : Ary tr Z h4 b1x .double [(.double (FP.dadd (FP.dmul f1 x00) (FP.dmul f2 y00))), (.double (0 : UInt64)), (.double (0 : UInt64))] := V_b1x.set W4
  refine own_iinc X4 hx hby rfl (L' := #[.val (.ref o0), .val (.double f1), .second, .val (.double f2), .second, .val (.ref b1), .val (.int (0 : Int32)), .val (.int (1 : Int32))]) rfl d6_59 (pc' := 62) rfl ?_
  refine own_goto X4 hx hby d6_62 (by decide) (pc' := 20) (by decide) ?_
  refine own_iload X4 hx hby rfl d6_20 (pc' := 22) rfl ?_
  refine own_iconst X4 hx hby (v := (3 : Int32)) (by decide) d6_22 (pc' := 23) rfl ?_
  refine own_icF X4 hx hby d6_23 (by decide) (pc' := 26) rfl ?_
  refine own_aload X4 hx hby rfl rfl d6_26 (pc' := 28) rfl ?_
  refine own_iload X4 hx hby rfl d6_28 (pc' := 30) rfl ?_
  refine own_aaload X4 hx hby hZ eH4 V_b1 rfl (by decide) (v := (.ref b1x)) rfl d6_30 (pc' := 31) rfl ?_
  refine own_iload X4 hx hby rfl d6_31 (pc' := 33) rfl ?_
  refine own_dloadN X4 hx hby rfl d6_33 (pc' := 34) rfl ?_
  refine own_aloadN X4 hx hby rfl rfl d6_34 (pc' := 35) rfl ?_
  refine own_getF X4 hx hby hZ hown (host := "") (Or.inl (hw _ (List.mem_of_getElem? (i := 13) rfl))) Via.refl eH4 F_o0_velocity d6_35 (pc' := 38) rfl (fun T5 X5 eH5 => ?_)
  refine own_iload X5 hx hby rfl d6_38 (pc' := 40) rfl ?_
  refine own_aaload X5 hx hby hZ eH5 V_velocity_o0 rfl (by decide) (v := (.ref t0)) rfl d6_40 (pc' := 41) rfl ?_
  refine own_iload X5 hx hby rfl d6_41 (pc' := 43) rfl ?_
  refine own_daload X5 hx hby hZ eH5 V_t0 (by decide) (v := (.double x01)) rfl d6_43 (pc' := 44) rfl ?_
  refine own_dmul X5 hx hby hn44_2 rfl d6_44 (pc' := 45) rfl ?_
  refine own_dloadN X5 hx hby rfl d6_45 (pc' := 46) rfl ?_
  refine own_aloadN X5 hx hby rfl rfl d6_46 (pc' := 47) rfl ?_
  refine own_getF X5 hx hby hZ hown (host := "") (Or.inl (hw _ (List.mem_of_getElem? (i := 15) rfl))) Via.refl eH5 F_o0_voltage d6_47 (pc' := 50) rfl (fun T6 X6 eH6 => ?_)
  refine own_iload X6 hx hby rfl d6_50 (pc' := 52) rfl ?_
  refine own_aaload X6 hx hby hZ eH6 V_voltage_o0 rfl (by decide) (v := (.ref u0)) rfl d6_52 (pc' := 53) rfl ?_
  refine own_iload X6 hx hby rfl d6_53 (pc' := 55) rfl ?_
  refine own_daload X6 hx hby hZ eH6 V_u0 (by decide) (v := (.double y01)) rfl d6_55 (pc' := 56) rfl ?_
  refine own_dmul X6 hx hby hn56_2 rfl d6_56 (pc' := 57) rfl ?_
  refine own_dadd X6 hx hby hn57_2 rfl d6_57 (pc' := 58) rfl ?_
  refine own_dastore X6 hx hby hZ eH6 V_b1x (by decide) (n := 1) (by decide) (of_decide_eq_true rfl) d6_58 (pc' := 59) rfl (fun T7 h7 X7 eH7 W7 => ?_)
  replace F_o0_velocity := F_o0_velocity.other W7 (Or.inl ne_o0_b1x)
  replace F_o0_voltage := F_o0_voltage.other W7 (Or.inl ne_o0_b1x)
  replace V_velocity_o0 := V_velocity_o0.other W7 ne_velocity_o0_b1x
  replace V_t0 := V_t0.other W7 ne_t0_b1x
  replace V_t1 := V_t1.other W7 ne_t1_b1x
  replace V_t2 := V_t2.other W7 ne_t2_b1x
  replace V_voltage_o0 := V_voltage_o0.other W7 ne_voltage_o0_b1x
  replace V_u0 := V_u0.other W7 ne_u0_b1x
  replace V_u1 := V_u1.other W7 ne_u1_b1x
  replace V_u2 := V_u2.other W7 ne_u2_b1x
  replace E_b1x := E_b1x.wr W7
  replace E_b1y := E_b1y.wr W7
  replace V_b1y := V_b1y.other W7 (Ne.symm ne_b1x_b1y)
  replace E_b1z := E_b1z.wr W7
  replace V_b1z := V_b1z.other W7 (Ne.symm ne_b1x_b1z)
  replace E_b1 := E_b1.wr W7
  replace V_b1 := V_b1.other W7 ne_b1_b1x
  have N7 := Fr.snoc X7 N4 g_b1x
  replace K0 := K0.wr W7 (Or.inr sz_b1x)
  replace Z0 := Nat.le_trans Z0 (Nat.le_of_eq W7.size.symm)
  replace V_b1x : Ary tr Z h7 b1x .double [(.double (FP.dadd (FP.dmul f1 x00) (FP.dmul f2 y00))), (.double (FP.dadd (FP.dmul f1 x01) (FP.dmul f2 y01))), (.double (0 : UInt64))] := V_b1x.set W7
  refine own_iinc X7 hx hby rfl (L' := #[.val (.ref o0), .val (.double f1), .second, .val (.double f2), .second, .val (.ref b1), .val (.int (0 : Int32)), .val (.int (2 : Int32))]) rfl d6_59 (pc' := 62) rfl ?_
  refine own_goto X7 hx hby d6_62 (by decide) (pc' := 20) (by decide) ?_
  refine own_iload X7 hx hby rfl d6_20 (pc' := 22) rfl ?_
  refine own_iconst X7 hx hby (v := (3 : Int32)) (by decide) d6_22 (pc' := 23) rfl ?_
  refine own_icF X7 hx hby d6_23 (by decide) (pc' := 26) rfl ?_
  refine own_aload X7 hx hby rfl rfl d6_26 (pc' := 28) rfl ?_
  refine own_iload X7 hx hby rfl d6_28 (pc' := 30) rfl ?_
  refine own_aaload X7 hx hby hZ eH7 V_b1 rfl (by decide) (v := (.ref b1x)) rfl d6_30 (pc' := 31) rfl ?_
  refine own_iload X7 hx hby rfl d6_31 (pc' := 33) rfl ?_
  refine own_dloadN X7 hx hby rfl d6_33 (pc' := 34) rfl ?_
  refine own_aloadN X7 hx hby rfl rfl d6_34 (pc' := 35) rfl ?_
  refine own_getF X7 hx hby hZ hown (host := "") (Or.inl (hw _ (List.mem_of_getElem? (i := 13) rfl))) Via.refl eH7 F_o0_velocity d6_35 (pc' := 38) rfl (fun T8 X8 eH8 => ?_)
  refine own_iload X8 hx hby rfl d6_38 (pc' := 40) rfl ?_
  refine own_aaload X8 hx hby hZ eH8 V_velocity_o0 rfl (by decide) (v := (.ref t0)) rfl d6_40 (pc' := 41) rfl ?_
  refine own_iload X8 hx hby rfl d6_41 (pc' := 43) rfl ?_
  refine own_daload X8 hx hby hZ eH8 V_t0 (by decide) (v := (.double x02)) rfl d6_43 (pc' := 44) rfl ?_
  refine own_dmul X8 hx hby hn44_3 rfl d6_44 (pc' := 45) rfl ?_
  refine own_dloadN X8 hx hby rfl d6_45 (pc' := 46) rfl ?_
  refine own_aloadN X8 hx hby rfl rfl d6_46 (pc' := 47) rfl ?_
  refine own_getF X8 hx hby hZ hown (host := "") (Or.inl (hw _ (List.mem_of_getElem? (i := 15) rfl))) Via.refl eH8 F_o0_voltage d6_47 (pc' := 50) rfl (fun T9 X9 eH9 => ?_)
  refine own_iload X9 hx hby rfl d6_50 (pc' := 52) rfl ?_
  refine own_aaload X9 hx hby hZ eH9 V_voltage_o0 rfl (by decide) (v := (.ref u0)) rfl d6_52 (pc' := 53) rfl ?_
  refine own_iload X9 hx hby rfl d6_53 (pc' := 55) rfl ?_
  refine own_daload X9 hx hby hZ eH9 V_u0 (by decide) (v := (.double y02)) rfl d6_55 (pc' := 56) rfl ?_
  refine own_dmul X9 hx hby hn56_3 rfl d6_56 (pc' := 57) rfl ?_
  refine own_dadd X9 hx hby hn57_3 rfl d6_57 (pc' := 58) rfl ?_
  refine own_dastore X9 hx hby hZ eH9 V_b1x (by decide) (n := 2) (by decide) (of_decide_eq_true rfl) d6_58 (pc' := 59) rfl (fun T10 h10 X10 eH10 W10 => ?_)
  replace F_o0_velocity := F_o0_velocity.other W10 (Or.inl ne_o0_b1x)
  replace F_o0_voltage := F_o0_voltage.other W10 (Or.inl ne_o0_b1x)
  replace V_velocity_o0 := V_velocity_o0.other W10 ne_velocity_o0_b1x
  replace V_t0 := V_t0.other W10 ne_t0_b1x
  replace V_t1 := V_t1.other W10 ne_t1_b1x
  replace V_t2 := V_t2.other W10 ne_t2_b1x
  replace V_voltage_o0 := V_voltage_o0.other W10 ne_voltage_o0_b1x
  replace V_u0 := V_u0.other W10 ne_u0_b1x
  replace V_u1 := V_u1.other W10 ne_u1_b1x
  replace V_u2 := V_u2.other W10 ne_u2_b1x
  replace E_b1x := E_b1x.wr W10
  replace E_b1y := E_b1y.wr W10
  replace V_b1y := V_b1y.other W10 (Ne.symm ne_b1x_b1y)
  replace E_b1z := E_b1z.wr W10
  replace V_b1z := V_b1z.other W10 (Ne.symm ne_b1x_b1z)
  replace E_b1 := E_b1.wr W10
  replace V_b1 := V_b1.other W10 ne_b1_b1x
  have N10 := Fr.snoc X10 N7 g_b1x
  replace K0 := K0.wr W10 (Or.inr sz_b1x)
  replace Z0 := Nat.le_trans Z0 (Nat.le_of_eq W10.size.symm)
  replace V_b1x : Ary tr Z h10 b1x .double [(.double (FP.dadd (FP.dmul f1 x00) (FP.dmul f2 y00))), (.double (FP.dadd (FP.dmul f1 x01) (FP.dmul f2 y01))), (.double (FP.dadd (FP.dmul f1 x02) (FP.dmul f2 y02)))] := V_b1x.set W10
  refine own_iinc X10 hx hby rfl (L' := #[.val (.ref o0), .val (.double f1), .second, .val (.double f2), .second, .val (.ref b1), .val (.int (0 : Int32)), .val (.int (3 : Int32))]) rfl d6_59 (pc' := 62) rfl ?_
  refine own_goto X10 hx hby d6_62 (by decide) (pc' := 20) (by decide) ?_
  refine own_iload X10 hx hby rfl d6_20 (pc' := 22) rfl ?_
  refine own_iconst X10 hx hby (v := (3 : Int32)) (by decide) d6_22 (pc' := 23) rfl ?_
  refine own_icT X10 hx hby d6_23 (by decide) (by decide) (pc' := 65) (by decide) ?_
  refine own_iinc X10 hx hby rfl (L' := #[.val (.ref o0), .val (.double f1), .second, .val (.double f2), .second, .val (.ref b1), .val (.int (1 : Int32)), .val (.int (3 : Int32))]) rfl d6_65 (pc' := 68) rfl ?_
  refine own_goto X10 hx hby d6_68 (by decide) (pc' := 11) (by decide) ?_
  refine own_iload X10 hx hby rfl d6_11 (pc' := 13) rfl ?_
  refine own_iconst X10 hx hby (v := (3 : Int32)) (by decide) d6_13 (pc' := 14) rfl ?_
  refine own_icF X10 hx hby d6_14 (by decide) (pc' := 17) rfl ?_
  refine own_iconst X10 hx hby (v := (0 : Int32)) (by decide) d6_17 (pc' := 18) rfl ?_
  refine own_istore X10 hx hby (L' := #[.val (.ref o0), .val (.double f1), .second, .val (.double f2), .second, .val (.ref b1), .val (.int (1 : Int32)), .val (.int (0 : Int32))]) rfl d6_18 (pc' := 20) rfl ?_
  refine own_iload X10 hx hby rfl d6_20 (pc' := 22) rfl ?_
  refine own_iconst X10 hx hby (v := (3 : Int32)) (by decide) d6_22 (pc' := 23) rfl ?_
  refine own_icF X10 hx hby d6_23 (by decide) (pc' := 26) rfl ?_
  refine own_aload X10 hx hby rfl rfl d6_26 (pc' := 28) rfl ?_
  refine own_iload X10 hx hby rfl d6_28 (pc' := 30) rfl ?_
  refine own_aaload X10 hx hby hZ eH10 V_b1 rfl (by decide) (v := (.ref b1y)) rfl d6_30 (pc' := 31) rfl ?_
  refine own_iload X10 hx hby rfl d6_31 (pc' := 33) rfl ?_
  refine own_dloadN X10 hx hby rfl d6_33 (pc' := 34) rfl ?_
  refine own_aloadN X10 hx hby rfl rfl d6_34 (pc' := 35) rfl ?_
  refine own_getF X10 hx hby hZ hown (host := "") (Or.inl (hw _ (List.mem_of_getElem? (i := 13) rfl))) Via.refl eH10 F_o0_velocity d6_35 (pc' := 38) rfl (fun T11 X11 eH11 => ?_)
  refine own_iload X11 hx hby rfl d6_38 (pc' := 40) rfl ?_
  refine own_aaload X11 hx hby hZ eH11 V_velocity_o0 rfl (by decide) (v := (.ref t1)) rfl d6_40 (pc' := 41) rfl ?_
  refine own_iload X11 hx hby rfl d6_41 (pc' := 43) rfl ?_
  refine own_daload X11 hx hby hZ eH11 V_t1 (by decide) (v := (.double x10)) rfl d6_43 (pc' := 44) rfl ?_
  refine own_dmul X11 hx hby hn44_4 rfl d6_44 (pc' := 45) rfl ?_
  refine own_dloadN X11 hx hby rfl d6_45 (pc' := 46) rfl ?_
  refine own_aloadN X11 hx hby rfl rfl d6_46 (pc' := 47) rfl ?_
  refine own_getF X11 hx hby hZ hown (host := "") (Or.inl (hw _ (List.mem_of_getElem? (i := 15) rfl))) Via.refl eH11 F_o0_voltage d6_47 (pc' := 50) rfl (fun T12 X12 eH12 => ?_)
  refine own_iload X12 hx hby rfl d6_50 (pc' := 52) rfl ?_
  refine own_aaload X12 hx hby hZ eH12 V_voltage_o0 rfl (by decide) (v := (.ref u1)) rfl d6_52 (pc' := 53) rfl ?_
  refine own_iload X12 hx hby rfl d6_53 (pc' := 55) rfl ?_
  refine own_daload X12 hx hby hZ eH12 V_u1 (by decide) (v := (.double y10)) rfl d6_55 (pc' := 56) rfl ?_
  refine own_dmul X12 hx hby hn56_4 rfl d6_56 (pc' := 57) rfl ?_
  refine own_dadd X12 hx hby hn57_4 rfl d6_57 (pc' := 58) rfl ?_
  refine own_dastore X12 hx hby hZ eH12 V_b1y (by decide) (n := 0) (by decide) (of_decide_eq_true rfl) d6_58 (pc' := 59) rfl (fun T13 h13 X13 eH13 W13 => ?_)
  replace F_o0_velocity := F_o0_velocity.other W13 (Or.inl ne_o0_b1y)
  replace F_o0_voltage := F_o0_voltage.other W13 (Or.inl ne_o0_b1y)
  replace V_velocity_o0 := V_velocity_o0.other W13 ne_velocity_o0_b1y
  replace V_t0 := V_t0.other W13 ne_t0_b1y
  replace V_t1 := V_t1.other W13 ne_t1_b1y
  replace V_t2 := V_t2.other W13 ne_t2_b1y
  replace V_voltage_o0 := V_voltage_o0.other W13 ne_voltage_o0_b1y
  replace V_u0 := V_u0.other W13 ne_u0_b1y
  replace V_u1 := V_u1.other W13 ne_u1_b1y
  replace V_u2 := V_u2.other W13 ne_u2_b1y
  replace E_b1x := E_b1x.wr W13
  replace V_b1x := V_b1x.other W13 ne_b1x_b1y
  replace E_b1y := E_b1y.wr W13
  replace E_b1z := E_b1z.wr W13
  replace V_b1z := V_b1z.other W13 (Ne.symm ne_b1y_b1z)
  replace E_b1 := E_b1.wr W13
  replace V_b1 := V_b1.other W13 ne_b1_b1y
  have N13 := Fr.snoc X13 N10 g_b1y
  replace K0 := K0.wr W13 (Or.inr sz_b1y)
  replace Z0 := Nat.le_trans Z0 (Nat.le_of_eq W13.size.symm)
  replace V_b1y : Ary tr Z h13 b1y .double [(.double (FP.dadd (FP.dmul f1 x10) (FP.dmul f2 y10))), (.double (0 : UInt64)), (.double (0 : UInt64))] := V_b1y.set W13
  refine own_iinc X13 hx hby rfl (L' := #[.val (.ref o0), .val (.double f1), .second, .val (.double f2), .second, .val (.ref b1), .val (.int (1 : Int32)), .val (.int (1 : Int32))]) rfl d6_59 (pc' := 62) rfl ?_
  refine own_goto X13 hx hby d6_62 (by decide) (pc' := 20) (by decide) ?_
  refine own_iload X13 hx hby rfl d6_20 (pc' := 22) rfl ?_
  refine own_iconst X13 hx hby (v := (3 : Int32)) (by decide) d6_22 (pc' := 23) rfl ?_
  refine own_icF X13 hx hby d6_23 (by decide) (pc' := 26) rfl ?_
  refine own_aload X13 hx hby rfl rfl d6_26 (pc' := 28) rfl ?_
  refine own_iload X13 hx hby rfl d6_28 (pc' := 30) rfl ?_
  refine own_aaload X13 hx hby hZ eH13 V_b1 rfl (by decide) (v := (.ref b1y)) rfl d6_30 (pc' := 31) rfl ?_
  refine own_iload X13 hx hby rfl d6_31 (pc' := 33) rfl ?_
  refine own_dloadN X13 hx hby rfl d6_33 (pc' := 34) rfl ?_
  refine own_aloadN X13 hx hby rfl rfl d6_34 (pc' := 35) rfl ?_
  refine own_getF X13 hx hby hZ hown (host := "") (Or.inl (hw _ (List.mem_of_getElem? (i := 13) rfl))) Via.refl eH13 F_o0_velocity d6_35 (pc' := 38) rfl (fun T14 X14 eH14 => ?_)
  refine own_iload X14 hx hby rfl d6_38 (pc' := 40) rfl ?_
  refine own_aaload X14 hx hby hZ eH14 V_velocity_o0 rfl (by decide) (v := (.ref t1)) rfl d6_40 (pc' := 41) rfl ?_
  refine own_iload X14 hx hby rfl d6_41 (pc' := 43) rfl ?_
  refine own_daload X14 hx hby hZ eH14 V_t1 (by decide) (v := (.double x11)) rfl d6_43 (pc' := 44) rfl ?_
  refine own_dmul X14 hx hby hn44_5 rfl d6_44 (pc' := 45) rfl ?_
  refine own_dloadN X14 hx hby rfl d6_45 (pc' := 46) rfl ?_
  refine own_aloadN X14 hx hby rfl rfl d6_46 (pc' := 47) rfl ?_
  refine own_getF X14 hx hby hZ hown (host := "") (Or.inl (hw _ (List.mem_of_getElem? (i := 15) rfl))) Via.refl eH14 F_o0_voltage d6_47 (pc' := 50) rfl (fun T15 X15 eH15 => ?_)
  refine own_iload X15 hx hby rfl d6_50 (pc' := 52) rfl ?_
  refine own_aaload X15 hx hby hZ eH15 V_voltage_o0 rfl (by decide) (v := (.ref u1)) rfl d6_52 (pc' := 53) rfl ?_
  refine own_iload X15 hx hby rfl d6_53 (pc' := 55) rfl ?_
  refine own_daload X15 hx hby hZ eH15 V_u1 (by decide) (v := (.double y11)) rfl d6_55 (pc' := 56) rfl ?_
  refine own_dmul X15 hx hby hn56_5 rfl d6_56 (pc' := 57) rfl ?_
  refine own_dadd X15 hx hby hn57_5 rfl d6_57 (pc' := 58) rfl ?_
  refine own_dastore X15 hx hby hZ eH15 V_b1y (by decide) (n := 1) (by decide) (of_decide_eq_true rfl) d6_58 (pc' := 59) rfl (fun T16 h16 X16 eH16 W16 => ?_)
  replace F_o0_velocity := F_o0_velocity.other W16 (Or.inl ne_o0_b1y)
  replace F_o0_voltage := F_o0_voltage.other W16 (Or.inl ne_o0_b1y)
  replace V_velocity_o0 := V_velocity_o0.other W16 ne_velocity_o0_b1y
  replace V_t0 := V_t0.other W16 ne_t0_b1y
  replace V_t1 := V_t1.other W16 ne_t1_b1y
  replace V_t2 := V_t2.other W16 ne_t2_b1y
  replace V_voltage_o0 := V_voltage_o0.other W16 ne_voltage_o0_b1y
  replace V_u0 := V_u0.other W16 ne_u0_b1y
  replace V_u1 := V_u1.other W16 ne_u1_b1y
  replace V_u2 := V_u2.other W16 ne_u2_b1y
  replace E_b1x := E_b1x.wr W16
  replace V_b1x := V_b1x.other W16 ne_b1x_b1y
  replace E_b1y := E_b1y.wr W16
  replace E_b1z := E_b1z.wr W16
  replace V_b1z := V_b1z.other W16 (Ne.symm ne_b1y_b1z)
  replace E_b1 := E_b1.wr W16
  replace V_b1 := V_b1.other W16 ne_b1_b1y
  have N16 := Fr.snoc X16 N13 g_b1y
  replace K0 := K0.wr W16 (Or.inr sz_b1y)
  replace Z0 := Nat.le_trans Z0 (Nat.le_of_eq W16.size.symm)
  replace V_b1y : Ary tr Z h16 b1y .double [(.double (FP.dadd (FP.dmul f1 x10) (FP.dmul f2 y10))), (.double (FP.dadd (FP.dmul f1 x11) (FP.dmul f2 y11))), (.double (0 : UInt64))] := V_b1y.set W16
  refine own_iinc X16 hx hby rfl (L' := #[.val (.ref o0), .val (.double f1), .second, .val (.double f2), .second, .val (.ref b1), .val (.int (1 : Int32)), .val (.int (2 : Int32))]) rfl d6_59 (pc' := 62) rfl ?_
  refine own_goto X16 hx hby d6_62 (by decide) (pc' := 20) (by decide) ?_
  refine own_iload X16 hx hby rfl d6_20 (pc' := 22) rfl ?_
  refine own_iconst X16 hx hby (v := (3 : Int32)) (by decide) d6_22 (pc' := 23) rfl ?_
  refine own_icF X16 hx hby d6_23 (by decide) (pc' := 26) rfl ?_
  refine own_aload X16 hx hby rfl rfl d6_26 (pc' := 28) rfl ?_
  refine own_iload X16 hx hby rfl d6_28 (pc' := 30) rfl ?_
  refine own_aaload X16 hx hby hZ eH16 V_b1 rfl (by decide) (v := (.ref b1y)) rfl d6_30 (pc' := 31) rfl ?_
  refine own_iload X16 hx hby rfl d6_31 (pc' := 33) rfl ?_
  refine own_dloadN X16 hx hby rfl d6_33 (pc' := 34) rfl ?_
  refine own_aloadN X16 hx hby rfl rfl d6_34 (pc' := 35) rfl ?_
  refine own_getF X16 hx hby hZ hown (host := "") (Or.inl (hw _ (List.mem_of_getElem? (i := 13) rfl))) Via.refl eH16 F_o0_velocity d6_35 (pc' := 38) rfl (fun T17 X17 eH17 => ?_)
  refine own_iload X17 hx hby rfl d6_38 (pc' := 40) rfl ?_
  refine own_aaload X17 hx hby hZ eH17 V_velocity_o0 rfl (by decide) (v := (.ref t1)) rfl d6_40 (pc' := 41) rfl ?_
  refine own_iload X17 hx hby rfl d6_41 (pc' := 43) rfl ?_
  refine own_daload X17 hx hby hZ eH17 V_t1 (by decide) (v := (.double x12)) rfl d6_43 (pc' := 44) rfl ?_
  refine own_dmul X17 hx hby hn44_6 rfl d6_44 (pc' := 45) rfl ?_
  refine own_dloadN X17 hx hby rfl d6_45 (pc' := 46) rfl ?_
  refine own_aloadN X17 hx hby rfl rfl d6_46 (pc' := 47) rfl ?_
  refine own_getF X17 hx hby hZ hown (host := "") (Or.inl (hw _ (List.mem_of_getElem? (i := 15) rfl))) Via.refl eH17 F_o0_voltage d6_47 (pc' := 50) rfl (fun T18 X18 eH18 => ?_)
  refine own_iload X18 hx hby rfl d6_50 (pc' := 52) rfl ?_
  refine own_aaload X18 hx hby hZ eH18 V_voltage_o0 rfl (by decide) (v := (.ref u1)) rfl d6_52 (pc' := 53) rfl ?_
  refine own_iload X18 hx hby rfl d6_53 (pc' := 55) rfl ?_
  refine own_daload X18 hx hby hZ eH18 V_u1 (by decide) (v := (.double y12)) rfl d6_55 (pc' := 56) rfl ?_
  refine own_dmul X18 hx hby hn56_6 rfl d6_56 (pc' := 57) rfl ?_
  refine own_dadd X18 hx hby hn57_6 rfl d6_57 (pc' := 58) rfl ?_
  refine own_dastore X18 hx hby hZ eH18 V_b1y (by decide) (n := 2) (by decide) (of_decide_eq_true rfl) d6_58 (pc' := 59) rfl (fun T19 h19 X19 eH19 W19 => ?_)
  replace F_o0_velocity := F_o0_velocity.other W19 (Or.inl ne_o0_b1y)
  replace F_o0_voltage := F_o0_voltage.other W19 (Or.inl ne_o0_b1y)
  replace V_velocity_o0 := V_velocity_o0.other W19 ne_velocity_o0_b1y
  replace V_t0 := V_t0.other W19 ne_t0_b1y
  replace V_t1 := V_t1.other W19 ne_t1_b1y
  replace V_t2 := V_t2.other W19 ne_t2_b1y
  replace V_voltage_o0 := V_voltage_o0.other W19 ne_voltage_o0_b1y
  replace V_u0 := V_u0.other W19 ne_u0_b1y
  replace V_u1 := V_u1.other W19 ne_u1_b1y
  replace V_u2 := V_u2.other W19 ne_u2_b1y
  replace E_b1x := E_b1x.wr W19
  replace V_b1x := V_b1x.other W19 ne_b1x_b1y
  replace E_b1y := E_b1y.wr W19
  replace E_b1z := E_b1z.wr W19
  replace V_b1z := V_b1z.other W19 (Ne.symm ne_b1y_b1z)
  replace E_b1 := E_b1.wr W19
  replace V_b1 := V_b1.other W19 ne_b1_b1y
  have N19 := Fr.snoc X19 N16 g_b1y
  replace K0 := K0.wr W19 (Or.inr sz_b1y)
  replace Z0 := Nat.le_trans Z0 (Nat.le_of_eq W19.size.symm)
  replace V_b1y : Ary tr Z h19 b1y .double [(.double (FP.dadd (FP.dmul f1 x10) (FP.dmul f2 y10))), (.double (FP.dadd (FP.dmul f1 x11) (FP.dmul f2 y11))), (.double (FP.dadd (FP.dmul f1 x12) (FP.dmul f2 y12)))] := V_b1y.set W19
  refine own_iinc X19 hx hby rfl (L' := #[.val (.ref o0), .val (.double f1), .second, .val (.double f2), .second, .val (.ref b1), .val (.int (1 : Int32)), .val (.int (3 : Int32))]) rfl d6_59 (pc' := 62) rfl ?_
  refine own_goto X19 hx hby d6_62 (by decide) (pc' := 20) (by decide) ?_
  refine own_iload X19 hx hby rfl d6_20 (pc' := 22) rfl ?_
  refine own_iconst X19 hx hby (v := (3 : Int32)) (by decide) d6_22 (pc' := 23) rfl ?_
  refine own_icT X19 hx hby d6_23 (by decide) (by decide) (pc' := 65) (by decide) ?_
  refine own_iinc X19 hx hby rfl (L' := #[.val (.ref o0), .val (.double f1), .second, .val (.double f2), .second, .val (.ref b1), .val (.int (2 : Int32)), .val (.int (3 : Int32))]) rfl d6_65 (pc' := 68) rfl ?_
  refine own_goto X19 hx hby d6_68 (by decide) (pc' := 11) (by decide) ?_
  refine own_iload X19 hx hby rfl d6_11 (pc' := 13) rfl ?_
  refine own_iconst X19 hx hby (v := (3 : Int32)) (by decide) d6_13 (pc' := 14) rfl ?_
  refine own_icF X19 hx hby d6_14 (by decide) (pc' := 17) rfl ?_
  refine own_iconst X19 hx hby (v := (0 : Int32)) (by decide) d6_17 (pc' := 18) rfl ?_
  refine own_istore X19 hx hby (L' := #[.val (.ref o0), .val (.double f1), .second, .val (.double f2), .second, .val (.ref b1), .val (.int (2 : Int32)), .val (.int (0 : Int32))]) rfl d6_18 (pc' := 20) rfl ?_
  refine own_iload X19 hx hby rfl d6_20 (pc' := 22) rfl ?_
  refine own_iconst X19 hx hby (v := (3 : Int32)) (by decide) d6_22 (pc' := 23) rfl ?_
  refine own_icF X19 hx hby d6_23 (by decide) (pc' := 26) rfl ?_
  refine own_aload X19 hx hby rfl rfl d6_26 (pc' := 28) rfl ?_
  refine own_iload X19 hx hby rfl d6_28 (pc' := 30) rfl ?_
  refine own_aaload X19 hx hby hZ eH19 V_b1 rfl (by decide) (v := (.ref b1z)) rfl d6_30 (pc' := 31) rfl ?_
  refine own_iload X19 hx hby rfl d6_31 (pc' := 33) rfl ?_
  refine own_dloadN X19 hx hby rfl d6_33 (pc' := 34) rfl ?_
  refine own_aloadN X19 hx hby rfl rfl d6_34 (pc' := 35) rfl ?_
  refine own_getF X19 hx hby hZ hown (host := "") (Or.inl (hw _ (List.mem_of_getElem? (i := 13) rfl))) Via.refl eH19 F_o0_velocity d6_35 (pc' := 38) rfl (fun T20 X20 eH20 => ?_)
  refine own_iload X20 hx hby rfl d6_38 (pc' := 40) rfl ?_
  refine own_aaload X20 hx hby hZ eH20 V_velocity_o0 rfl (by decide) (v := (.ref t2)) rfl d6_40 (pc' := 41) rfl ?_
  refine own_iload X20 hx hby rfl d6_41 (pc' := 43) rfl ?_
  refine own_daload X20 hx hby hZ eH20 V_t2 (by decide) (v := (.double x20)) rfl d6_43 (pc' := 44) rfl ?_
  refine own_dmul X20 hx hby hn44_7 rfl d6_44 (pc' := 45) rfl ?_
  refine own_dloadN X20 hx hby rfl d6_45 (pc' := 46) rfl ?_
  refine own_aloadN X20 hx hby rfl rfl d6_46 (pc' := 47) rfl ?_
  refine own_getF X20 hx hby hZ hown (host := "") (Or.inl (hw _ (List.mem_of_getElem? (i := 15) rfl))) Via.refl eH20 F_o0_voltage d6_47 (pc' := 50) rfl (fun T21 X21 eH21 => ?_)
  refine own_iload X21 hx hby rfl d6_50 (pc' := 52) rfl ?_
  refine own_aaload X21 hx hby hZ eH21 V_voltage_o0 rfl (by decide) (v := (.ref u2)) rfl d6_52 (pc' := 53) rfl ?_
  refine own_iload X21 hx hby rfl d6_53 (pc' := 55) rfl ?_
  refine own_daload X21 hx hby hZ eH21 V_u2 (by decide) (v := (.double y20)) rfl d6_55 (pc' := 56) rfl ?_
  refine own_dmul X21 hx hby hn56_7 rfl d6_56 (pc' := 57) rfl ?_
  refine own_dadd X21 hx hby hn57_7 rfl d6_57 (pc' := 58) rfl ?_
  refine own_dastore X21 hx hby hZ eH21 V_b1z (by decide) (n := 0) (by decide) (of_decide_eq_true rfl) d6_58 (pc' := 59) rfl (fun T22 h22 X22 eH22 W22 => ?_)
  replace F_o0_velocity := F_o0_velocity.other W22 (Or.inl ne_o0_b1z)
  replace F_o0_voltage := F_o0_voltage.other W22 (Or.inl ne_o0_b1z)
  replace V_velocity_o0 := V_velocity_o0.other W22 ne_velocity_o0_b1z
  replace V_t0 := V_t0.other W22 ne_t0_b1z
  replace V_t1 := V_t1.other W22 ne_t1_b1z
  replace V_t2 := V_t2.other W22 ne_t2_b1z
  replace V_voltage_o0 := V_voltage_o0.other W22 ne_voltage_o0_b1z
  replace V_u0 := V_u0.other W22 ne_u0_b1z
  replace V_u1 := V_u1.other W22 ne_u1_b1z
  replace V_u2 := V_u2.other W22 ne_u2_b1z
  replace E_b1x := E_b1x.wr W22
  replace V_b1x := V_b1x.other W22 ne_b1x_b1z
  replace E_b1y := E_b1y.wr W22
  replace V_b1y := V_b1y.other W22 ne_b1y_b1z
  replace E_b1z := E_b1z.wr W22
  replace E_b1 := E_b1.wr W22
  replace V_b1 := V_b1.other W22 ne_b1_b1z
  have N22 := Fr.snoc X22 N19 g_b1z
  replace K0 := K0.wr W22 (Or.inr sz_b1z)
  replace Z0 := Nat.le_trans Z0 (Nat.le_of_eq W22.size.symm)
  replace V_b1z : Ary tr Z h22 b1z .double [(.double (FP.dadd (FP.dmul f1 x20) (FP.dmul f2 y20))), (.double (0 : UInt64)), (.double (0 : UInt64))] := V_b1z.set W22
  refine own_iinc X22 hx hby rfl (L' := #[.val (.ref o0), .val (.double f1), .second, .val (.double f2), .second, .val (.ref b1), .val (.int (2 : Int32)), .val (.int (1 : Int32))]) rfl d6_59 (pc' := 62) rfl ?_
  refine own_goto X22 hx hby d6_62 (by decide) (pc' := 20) (by decide) ?_
  refine own_iload X22 hx hby rfl d6_20 (pc' := 22) rfl ?_
  refine own_iconst X22 hx hby (v := (3 : Int32)) (by decide) d6_22 (pc' := 23) rfl ?_
  refine own_icF X22 hx hby d6_23 (by decide) (pc' := 26) rfl ?_
  refine own_aload X22 hx hby rfl rfl d6_26 (pc' := 28) rfl ?_
  refine own_iload X22 hx hby rfl d6_28 (pc' := 30) rfl ?_
  refine own_aaload X22 hx hby hZ eH22 V_b1 rfl (by decide) (v := (.ref b1z)) rfl d6_30 (pc' := 31) rfl ?_
  refine own_iload X22 hx hby rfl d6_31 (pc' := 33) rfl ?_
  refine own_dloadN X22 hx hby rfl d6_33 (pc' := 34) rfl ?_
  refine own_aloadN X22 hx hby rfl rfl d6_34 (pc' := 35) rfl ?_
  refine own_getF X22 hx hby hZ hown (host := "") (Or.inl (hw _ (List.mem_of_getElem? (i := 13) rfl))) Via.refl eH22 F_o0_velocity d6_35 (pc' := 38) rfl (fun T23 X23 eH23 => ?_)
  refine own_iload X23 hx hby rfl d6_38 (pc' := 40) rfl ?_
  refine own_aaload X23 hx hby hZ eH23 V_velocity_o0 rfl (by decide) (v := (.ref t2)) rfl d6_40 (pc' := 41) rfl ?_
  refine own_iload X23 hx hby rfl d6_41 (pc' := 43) rfl ?_
  refine own_daload X23 hx hby hZ eH23 V_t2 (by decide) (v := (.double x21)) rfl d6_43 (pc' := 44) rfl ?_
  refine own_dmul X23 hx hby hn44_8 rfl d6_44 (pc' := 45) rfl ?_
  refine own_dloadN X23 hx hby rfl d6_45 (pc' := 46) rfl ?_
  refine own_aloadN X23 hx hby rfl rfl d6_46 (pc' := 47) rfl ?_
  refine own_getF X23 hx hby hZ hown (host := "") (Or.inl (hw _ (List.mem_of_getElem? (i := 15) rfl))) Via.refl eH23 F_o0_voltage d6_47 (pc' := 50) rfl (fun T24 X24 eH24 => ?_)
  refine own_iload X24 hx hby rfl d6_50 (pc' := 52) rfl ?_
  refine own_aaload X24 hx hby hZ eH24 V_voltage_o0 rfl (by decide) (v := (.ref u2)) rfl d6_52 (pc' := 53) rfl ?_
  refine own_iload X24 hx hby rfl d6_53 (pc' := 55) rfl ?_
  refine own_daload X24 hx hby hZ eH24 V_u2 (by decide) (v := (.double y21)) rfl d6_55 (pc' := 56) rfl ?_
  refine own_dmul X24 hx hby hn56_8 rfl d6_56 (pc' := 57) rfl ?_
  refine own_dadd X24 hx hby hn57_8 rfl d6_57 (pc' := 58) rfl ?_
  refine own_dastore X24 hx hby hZ eH24 V_b1z (by decide) (n := 1) (by decide) (of_decide_eq_true rfl) d6_58 (pc' := 59) rfl (fun T25 h25 X25 eH25 W25 => ?_)
  replace F_o0_velocity := F_o0_velocity.other W25 (Or.inl ne_o0_b1z)
  replace F_o0_voltage := F_o0_voltage.other W25 (Or.inl ne_o0_b1z)
  replace V_velocity_o0 := V_velocity_o0.other W25 ne_velocity_o0_b1z
  replace V_t0 := V_t0.other W25 ne_t0_b1z
  replace V_t1 := V_t1.other W25 ne_t1_b1z
  replace V_t2 := V_t2.other W25 ne_t2_b1z
  replace V_voltage_o0 := V_voltage_o0.other W25 ne_voltage_o0_b1z
  replace V_u0 := V_u0.other W25 ne_u0_b1z
  replace V_u1 := V_u1.other W25 ne_u1_b1z
  replace V_u2 := V_u2.other W25 ne_u2_b1z
  replace E_b1x := E_b1x.wr W25
  replace V_b1x := V_b1x.other W25 ne_b1x_b1z
  replace E_b1y := E_b1y.wr W25
  replace V_b1y := V_b1y.other W25 ne_b1y_b1z
  replace E_b1z := E_b1z.wr W25
  replace E_b1 := E_b1.wr W25
  replace V_b1 := V_b1.other W25 ne_b1_b1z
  have N25 := Fr.snoc X25 N22 g_b1z
  replace K0 := K0.wr W25 (Or.inr sz_b1z)
  replace Z0 := Nat.le_trans Z0 (Nat.le_of_eq W25.size.symm)
  replace V_b1z : Ary tr Z h25 b1z .double [(.double (FP.dadd (FP.dmul f1 x20) (FP.dmul f2 y20))), (.double (FP.dadd (FP.dmul f1 x21) (FP.dmul f2 y21))), (.double (0 : UInt64))] := V_b1z.set W25
  refine own_iinc X25 hx hby rfl (L' := #[.val (.ref o0), .val (.double f1), .second, .val (.double f2), .second, .val (.ref b1), .val (.int (2 : Int32)), .val (.int (2 : Int32))]) rfl d6_59 (pc' := 62) rfl ?_
  refine own_goto X25 hx hby d6_62 (by decide) (pc' := 20) (by decide) ?_
  refine own_iload X25 hx hby rfl d6_20 (pc' := 22) rfl ?_
  refine own_iconst X25 hx hby (v := (3 : Int32)) (by decide) d6_22 (pc' := 23) rfl ?_
  refine own_icF X25 hx hby d6_23 (by decide) (pc' := 26) rfl ?_
  refine own_aload X25 hx hby rfl rfl d6_26 (pc' := 28) rfl ?_
  refine own_iload X25 hx hby rfl d6_28 (pc' := 30) rfl ?_
  refine own_aaload X25 hx hby hZ eH25 V_b1 rfl (by decide) (v := (.ref b1z)) rfl d6_30 (pc' := 31) rfl ?_
  refine own_iload X25 hx hby rfl d6_31 (pc' := 33) rfl ?_
  refine own_dloadN X25 hx hby rfl d6_33 (pc' := 34) rfl ?_
  refine own_aloadN X25 hx hby rfl rfl d6_34 (pc' := 35) rfl ?_
  refine own_getF X25 hx hby hZ hown (host := "") (Or.inl (hw _ (List.mem_of_getElem? (i := 13) rfl))) Via.refl eH25 F_o0_velocity d6_35 (pc' := 38) rfl (fun T26 X26 eH26 => ?_)
  refine own_iload X26 hx hby rfl d6_38 (pc' := 40) rfl ?_
  refine own_aaload X26 hx hby hZ eH26 V_velocity_o0 rfl (by decide) (v := (.ref t2)) rfl d6_40 (pc' := 41) rfl ?_
  refine own_iload X26 hx hby rfl d6_41 (pc' := 43) rfl ?_
  refine own_daload X26 hx hby hZ eH26 V_t2 (by decide) (v := (.double x22)) rfl d6_43 (pc' := 44) rfl ?_
  refine own_dmul X26 hx hby hn44_9 rfl d6_44 (pc' := 45) rfl ?_
  refine own_dloadN X26 hx hby rfl d6_45 (pc' := 46) rfl ?_
  refine own_aloadN X26 hx hby rfl rfl d6_46 (pc' := 47) rfl ?_
  refine own_getF X26 hx hby hZ hown (host := "") (Or.inl (hw _ (List.mem_of_getElem? (i := 15) rfl))) Via.refl eH26 F_o0_voltage d6_47 (pc' := 50) rfl (fun T27 X27 eH27 => ?_)
  refine own_iload X27 hx hby rfl d6_50 (pc' := 52) rfl ?_
  refine own_aaload X27 hx hby hZ eH27 V_voltage_o0 rfl (by decide) (v := (.ref u2)) rfl d6_52 (pc' := 53) rfl ?_
  refine own_iload X27 hx hby rfl d6_53 (pc' := 55) rfl ?_
  refine own_daload X27 hx hby hZ eH27 V_u2 (by decide) (v := (.double y22)) rfl d6_55 (pc' := 56) rfl ?_
  refine own_dmul X27 hx hby hn56_9 rfl d6_56 (pc' := 57) rfl ?_
  refine own_dadd X27 hx hby hn57_9 rfl d6_57 (pc' := 58) rfl ?_
  refine own_dastore X27 hx hby hZ eH27 V_b1z (by decide) (n := 2) (by decide) (of_decide_eq_true rfl) d6_58 (pc' := 59) rfl (fun T28 h28 X28 eH28 W28 => ?_)
  replace F_o0_velocity := F_o0_velocity.other W28 (Or.inl ne_o0_b1z)
  replace F_o0_voltage := F_o0_voltage.other W28 (Or.inl ne_o0_b1z)
  replace V_velocity_o0 := V_velocity_o0.other W28 ne_velocity_o0_b1z
  replace V_t0 := V_t0.other W28 ne_t0_b1z
  replace V_t1 := V_t1.other W28 ne_t1_b1z
  replace V_t2 := V_t2.other W28 ne_t2_b1z
  replace V_voltage_o0 := V_voltage_o0.other W28 ne_voltage_o0_b1z
  replace V_u0 := V_u0.other W28 ne_u0_b1z
  replace V_u1 := V_u1.other W28 ne_u1_b1z
  replace V_u2 := V_u2.other W28 ne_u2_b1z
  replace E_b1x := E_b1x.wr W28
  replace V_b1x := V_b1x.other W28 ne_b1x_b1z
  replace E_b1y := E_b1y.wr W28
  replace V_b1y := V_b1y.other W28 ne_b1y_b1z
  replace E_b1z := E_b1z.wr W28
  replace E_b1 := E_b1.wr W28
  replace V_b1 := V_b1.other W28 ne_b1_b1z
  have N28 := Fr.snoc X28 N25 g_b1z
  replace K0 := K0.wr W28 (Or.inr sz_b1z)
  replace Z0 := Nat.le_trans Z0 (Nat.le_of_eq W28.size.symm)
  replace V_b1z : Ary tr Z h28 b1z .double [(.double (FP.dadd (FP.dmul f1 x20) (FP.dmul f2 y20))), (.double (FP.dadd (FP.dmul f1 x21) (FP.dmul f2 y21))), (.double (FP.dadd (FP.dmul f1 x22) (FP.dmul f2 y22)))] := V_b1z.set W28
  refine own_iinc X28 hx hby rfl (L' := #[.val (.ref o0), .val (.double f1), .second, .val (.double f2), .second, .val (.ref b1), .val (.int (2 : Int32)), .val (.int (3 : Int32))]) rfl d6_59 (pc' := 62) rfl ?_
  refine own_goto X28 hx hby d6_62 (by decide) (pc' := 20) (by decide) ?_
  refine own_iload X28 hx hby rfl d6_20 (pc' := 22) rfl ?_
  refine own_iconst X28 hx hby (v := (3 : Int32)) (by decide) d6_22 (pc' := 23) rfl ?_
  refine own_icT X28 hx hby d6_23 (by decide) (by decide) (pc' := 65) (by decide) ?_
  refine own_iinc X28 hx hby rfl (L' := #[.val (.ref o0), .val (.double f1), .second, .val (.double f2), .second, .val (.ref b1), .val (.int (3 : Int32)), .val (.int (3 : Int32))]) rfl d6_65 (pc' := 68) rfl ?_
  refine own_goto X28 hx hby d6_68 (by decide) (pc' := 11) (by decide) ?_
  refine own_iload X28 hx hby rfl d6_11 (pc' := 13) rfl ?_
  refine own_iconst X28 hx hby (v := (3 : Int32)) (by decide) d6_13 (pc' := 14) rfl ?_
  refine own_icT X28 hx hby d6_14 (by decide) (by decide) (pc' := 71) (by decide) ?_
  refine own_aload X28 hx hby rfl rfl d6_71 (pc' := 73) rfl ?_
  exact own_retA X28 hx hby Bd.notSynchronized Bd.returns rfl rfl d6_73 (by decide) (by decide) eH28 ⟨b1, b1x, b1y, b1z, rfl, N28, K0, sz_b1, sz_b1x, sz_b1y, sz_b1z, ne_b1_b1x, ne_b1_b1y, ne_b1_b1z, ne_b1x_b1y, ne_b1x_b1z, ne_b1y_b1z, E_b1, V_b1, E_b1x, V_b1x, E_b1y, V_b1y, E_b1z, V_b1z⟩
theorem ef700 (m : MethodId) (x0 : Addr) (x1 : Addr) (x2 : Addr) (x3 : Int64) (x4 : Int64) (x5 : Int32) (x6 : Int32) : entryFrame m #[(.ref x0), (.ref x1), (.ref x2), (.long x3), (.long x4), (.int x5), (.int x6), (.int (0 : Int32)), (.int (0 : Int32))] 13 = mkF m 0 #[.val (.ref x0), .val (.ref x1), .val (.ref x2), .val (.long x3), .second, .val (.long x4), .second, .val (.int x5), .val (.int x6), .val (.int (0 : Int32)), .val (.int (0 : Int32)), .unset, .unset] [] := by first | (simp [entryFrame, mkF, argsToLocals, Value.category]; done) | rfl
def Q700 (Z : State) (o0 : Addr) (o1 : Addr) (o2 : Addr) (p3 : Int64) (p4 : Int64) (p5 : Int32) (p6 : Int32) (t0 : Addr) (t1 : Addr) (t2 : Addr) (x00 : UInt64) (x01 : UInt64) (x02 : UInt64) (x10 : UInt64) (x11 : UInt64) (x12 : UInt64) (x20 : UInt64) (x21 : UInt64) (x22 : UInt64) (hh0 : Int64) (hh1 : Int64) (hh2 : Int64) (gg0 : Int64) (gg1 : Int64) (gg2 : Int64) (h0 : Heap) (n0 : Nat) (v : Option Value) (h : Heap) (L : List Loc) : Prop := v = some (.int (if deq (FP.dmul x00 (FP.i2d (p5 * p6))) (FP.l2d ((((p3 * hh0) * hh0) * (p6.toInt64)) + (((p4 * gg0) * gg0) * (p5.toInt64)))) then (1 : Int32) else (0 : Int32))) ∧ Fr n0 L ∧ h0 = h
set_option maxRecDepth 65536 in
set_option maxHeartbeats 40000000 in
theorem rm700 (l : Launch) (Z : State) (a0 : Array Value) (hw : ∀ d ∈ tables_1, d.before a0 Z = true) (ws : List Jvm.Cond) (o0 : Addr) (o1 : Addr) (o2 : Addr) (p3 : Int64) (p4 : Int64) (p5 : Int32) (p6 : Int32) (t0 : Addr) (t1 : Addr) (t2 : Addr) (x00 : UInt64) (x01 : UInt64) (x02 : UInt64) (x10 : UInt64) (x11 : UInt64) (x12 : UInt64) (x20 : UInt64) (x21 : UInt64) (x22 : UInt64) (hh0 : Int64) (hh1 : Int64) (hh2 : Int64) (gg0 : Int64) (gg1 : Int64) (gg2 : Int64) (h0 : Heap) (n0 : Nat) (Z0 : n0 ≤ h0.size) (V_o0 : Ary (ovA Z .double "[D") Z h0 o0 (.array .double) [(.ref t0), (.ref t1), (.ref t2)]) (V_t0 : Ary tr Z h0 t0 .double [(.double x00), (.double x01), (.double x02)]) (V_t1 : Ary tr Z h0 t1 .double [(.double x10), (.double x11), (.double x12)]) (V_t2 : Ary tr Z h0 t2 .double [(.double x20), (.double x21), (.double x22)]) (V_o1 : Ary tr Z h0 o1 .long [(.long hh0), (.long hh1), (.long hh2)]) (V_o2 : Ary tr Z h0 o2 .long [(.long gg0), (.long gg1), (.long gg2)]) (hn47_1 : (NoNaN64 (FP.dmul x00 (FP.i2d (p5 * p6))))) :
    MetFree l (⟨"com/example/volts_to_velocity/voltstovelocity/ScoreNoiseCovariancePinLaw", "ok", "([[D[J[JJJIIII)Z"⟩ : MethodName) (head1 (Jvm.Cond.code (⟨"com/example/volts_to_velocity/voltstovelocity/ScoreNoiseCovariancePinLaw", "ok", "([[D[J[JJJIIII)Z"⟩ : MethodName) method_3_code 13 (some .boolean) :: ws) ({ frames := 0, cells := 0, slots := 0, locals := 0 } : Room)) (fun a U => a = #[(.ref o0), (.ref o1), (.ref o2), (.long p3), (.long p4), (.int p5), (.int p6), (.int (0 : Int32)), (.int (0 : Int32))] ∧ Z.Warmed39 U.vm ∧ U.heap = h0) (fun _ _ _ _ _ => True) (fun _ U o U' => ∃ v L, o = .returned v ∧ Q700 Z o0 o1 o2 p3 p4 p5 p6 t0 t1 t2 x00 x01 x02 x10 x11 x12 x20 x21 x22 hh0 hh1 hh2 gg0 gg1 gg2 h0 n0 v U'.heap L ∧ FrameEnd U o U' L ({ frames := 0, cells := 0, slots := 0, locals := 0 } : Room).cells ({ frames := 0, cells := 0, slots := 0, locals := 0 } : Room).slots) := by
  refine MetFree.of_bodySF (plainFor_of_name pn_com_example_volts_to_velocity_voltstovelocity_ScoreNoiseCovariancePinLaw) hisR ?_
  intro p e s m args below meth c s₁ Bd hml0 hP hK
  obtain ⟨rfl, hZ, hh⟩ := hP
  have hx := Bd.exec
  have hby := Bd.bytes
  have hml : c.maxLocals = 13 := hml0
  have hown : s.vm.findClass "com/example/volts_to_velocity/voltstovelocity/ScoreNoiseCovariancePinLaw" = some m.cls := findClass_of_methodNamed Bd.named
  have hnm := (name_of_methodNamed Bd.named Bd.method).1
  have X0 : Stand p l e ({ frames := 0, cells := 0, slots := 0, locals := 0 } : Room) s m #[(.ref o0), (.ref o1), (.ref o2), (.long p3), (.long p4), (.int p5), (.int p6), (.int (0 : Int32)), (.int (0 : Int32))] below meth c s₁ [] 0 0 := Stand.of_body Bd
  have eH0 : s₁.heap = h0 := by rw [← hh, Bd.state]; rfl
  have N0 := Fr.nil n0
  show Gt p.tables e below (fun o U' => ∃ v L, o = .returned v ∧ Q700 Z o0 o1 o2 p3 p4 p5 p6 t0 t1 t2 x00 x01 x02 x10 x11 x12 x20 x21 x22 hh0 hh1 hh2 gg0 gg1 gg2 h0 n0 v U'.heap L ∧ FrameEnd s o U' L ({ frames := 0, cells := 0, slots := 0, locals := 0 } : Room).cells ({ frames := 0, cells := 0, slots := 0, locals := 0 } : Room).slots) _
  refine own_cast (ef700 m o0 o1 o2 p3 p4 p5 p6) ?_
  refine own_lloadN X0 hx hby rfl d7_0 (pc' := 1) rfl ?_
  refine own_aloadN X0 hx hby rfl rfl d7_1 (pc' := 2) rfl ?_
  refine own_iload X0 hx hby rfl d7_2 (pc' := 4) rfl ?_
  refine own_laload X0 hx hby hZ eH0 V_o1 (by decide) (v := (.long hh0)) rfl d7_4 (pc' := 5) rfl ?_
  refine own_lmul X0 hx hby rfl d7_5 (pc' := 6) rfl ?_
  refine own_aloadN X0 hx hby rfl rfl d7_6 (pc' := 7) rfl ?_
  refine own_iload X0 hx hby rfl d7_7 (pc' := 9) rfl ?_
  refine own_laload X0 hx hby hZ eH0 V_o1 (by decide) (v := (.long hh0)) rfl d7_9 (pc' := 10) rfl ?_
  refine own_lmul X0 hx hby rfl d7_10 (pc' := 11) rfl ?_
  refine own_iload X0 hx hby rfl d7_11 (pc' := 13) rfl ?_
  refine own_i2l X0 hx hby rfl d7_13 (pc' := 14) rfl ?_
  refine own_lmul X0 hx hby rfl d7_14 (pc' := 15) rfl ?_
  refine own_lload X0 hx hby rfl d7_15 (pc' := 17) rfl ?_
  refine own_aloadN X0 hx hby rfl rfl d7_17 (pc' := 18) rfl ?_
  refine own_iload X0 hx hby rfl d7_18 (pc' := 20) rfl ?_
  refine own_laload X0 hx hby hZ eH0 V_o2 (by decide) (v := (.long gg0)) rfl d7_20 (pc' := 21) rfl ?_
  refine own_lmul X0 hx hby rfl d7_21 (pc' := 22) rfl ?_
  refine own_aloadN X0 hx hby rfl rfl d7_22 (pc' := 23) rfl ?_
  refine own_iload X0 hx hby rfl d7_23 (pc' := 25) rfl ?_
  refine own_laload X0 hx hby hZ eH0 V_o2 (by decide) (v := (.long gg0)) rfl d7_25 (pc' := 26) rfl ?_
  refine own_lmul X0 hx hby rfl d7_26 (pc' := 27) rfl ?_
  refine own_iload X0 hx hby rfl d7_27 (pc' := 29) rfl ?_
  refine own_i2l X0 hx hby rfl d7_29 (pc' := 30) rfl ?_
  refine own_lmul X0 hx hby rfl d7_30 (pc' := 31) rfl ?_
  refine own_ladd X0 hx hby rfl d7_31 (pc' := 32) rfl ?_
  refine own_lstore X0 hx hby (L' := #[.val (.ref o0), .val (.ref o1), .val (.ref o2), .val (.long p3), .second, .val (.long p4), .second, .val (.int p5), .val (.int p6), .val (.int (0 : Int32)), .val (.int (0 : Int32)), .val (.long ((((p3 * hh0) * hh0) * (p6.toInt64)) + (((p4 * gg0) * gg0) * (p5.toInt64)))), .second]) rfl d7_32 (pc' := 34) rfl ?_
  refine own_aloadN X0 hx hby rfl rfl d7_34 (pc' := 35) rfl ?_
  refine own_iload X0 hx hby rfl d7_35 (pc' := 37) rfl ?_
  refine own_aaload X0 hx hby hZ eH0 V_o0 rfl (by decide) (v := (.ref t0)) rfl d7_37 (pc' := 38) rfl ?_
  refine own_iload X0 hx hby rfl d7_38 (pc' := 40) rfl ?_
  refine own_daload X0 hx hby hZ eH0 V_t0 (by decide) (v := (.double x00)) rfl d7_40 (pc' := 41) rfl ?_
  refine own_iload X0 hx hby rfl d7_41 (pc' := 43) rfl ?_
  refine own_iload X0 hx hby rfl d7_43 (pc' := 45) rfl ?_
  refine own_imul X0 hx hby rfl d7_45 (pc' := 46) rfl ?_
  refine own_i2d X0 hx hby rfl d7_46 (pc' := 47) rfl ?_
  refine own_dmul X0 hx hby hn47_1 rfl d7_47 (pc' := 48) rfl ?_
  refine own_lload X0 hx hby rfl d7_48 (pc' := 50) rfl ?_
  refine own_l2d X0 hx hby rfl d7_50 (pc' := 51) rfl ?_
  refine own_dcmp X0 hx hby rfl d7_51 (pc' := 52) rfl ?_
  by_cases hc1 : deq (FP.dmul x00 (FP.i2d (p5 * p6))) (FP.l2d ((((p3 * hh0) * hh0) * (p6.toInt64)) + (((p4 * gg0) * gg0) * (p5.toInt64))))
  · refine own_ifF X0 hx hby d7_52 (own_dl_ne_p hc1) (pc' := 55) rfl ?_
    refine own_iconst X0 hx hby (v := (1 : Int32)) (by decide) d7_55 (pc' := 56) rfl ?_
    refine own_goto X0 hx hby d7_56 (by decide) (pc' := 60) (by decide) ?_
    exact own_retZ X0 hx hby Bd.notSynchronized Bd.returns (Or.inr rfl) d7_60 (by decide) (by decide) eH0 ⟨(by rw [if_pos hc1]), N0, rfl⟩
  · refine own_ifT X0 hx hby d7_52 (own_dl_ne_n hc1) (by decide) (pc' := 59) (by decide) ?_
    refine own_iconst X0 hx hby (v := (0 : Int32)) (by decide) d7_59 (pc' := 60) rfl ?_
    exact own_retZ X0 hx hby Bd.notSynchronized Bd.returns (Or.inl rfl) d7_60 (by decide) (by decide) eH0 ⟨(by rw [if_neg hc1]), N0, rfl⟩
theorem ef701 (m : MethodId) (x0 : Addr) (x1 : Addr) (x2 : Addr) (x3 : Int64) (x4 : Int64) (x5 : Int32) (x6 : Int32) : entryFrame m #[(.ref x0), (.ref x1), (.ref x2), (.long x3), (.long x4), (.int x5), (.int x6), (.int (0 : Int32)), (.int (1 : Int32))] 13 = mkF m 0 #[.val (.ref x0), .val (.ref x1), .val (.ref x2), .val (.long x3), .second, .val (.long x4), .second, .val (.int x5), .val (.int x6), .val (.int (0 : Int32)), .val (.int (1 : Int32)), .unset, .unset] [] := by first | (simp [entryFrame, mkF, argsToLocals, Value.category]; done) | rfl
def Q701 (Z : State) (o0 : Addr) (o1 : Addr) (o2 : Addr) (p3 : Int64) (p4 : Int64) (p5 : Int32) (p6 : Int32) (t0 : Addr) (t1 : Addr) (t2 : Addr) (x00 : UInt64) (x01 : UInt64) (x02 : UInt64) (x10 : UInt64) (x11 : UInt64) (x12 : UInt64) (x20 : UInt64) (x21 : UInt64) (x22 : UInt64) (hh0 : Int64) (hh1 : Int64) (hh2 : Int64) (gg0 : Int64) (gg1 : Int64) (gg2 : Int64) (h0 : Heap) (n0 : Nat) (v : Option Value) (h : Heap) (L : List Loc) : Prop := v = some (.int (if deq (FP.dmul x01 (FP.i2d (p5 * p6))) (FP.l2d ((((p3 * hh0) * hh1) * (p6.toInt64)) + (((p4 * gg0) * gg1) * (p5.toInt64)))) then (1 : Int32) else (0 : Int32))) ∧ Fr n0 L ∧ h0 = h
set_option maxRecDepth 65536 in
set_option maxHeartbeats 40000000 in
theorem rm701 (l : Launch) (Z : State) (a0 : Array Value) (hw : ∀ d ∈ tables_1, d.before a0 Z = true) (ws : List Jvm.Cond) (o0 : Addr) (o1 : Addr) (o2 : Addr) (p3 : Int64) (p4 : Int64) (p5 : Int32) (p6 : Int32) (t0 : Addr) (t1 : Addr) (t2 : Addr) (x00 : UInt64) (x01 : UInt64) (x02 : UInt64) (x10 : UInt64) (x11 : UInt64) (x12 : UInt64) (x20 : UInt64) (x21 : UInt64) (x22 : UInt64) (hh0 : Int64) (hh1 : Int64) (hh2 : Int64) (gg0 : Int64) (gg1 : Int64) (gg2 : Int64) (h0 : Heap) (n0 : Nat) (Z0 : n0 ≤ h0.size) (V_o0 : Ary (ovA Z .double "[D") Z h0 o0 (.array .double) [(.ref t0), (.ref t1), (.ref t2)]) (V_t0 : Ary tr Z h0 t0 .double [(.double x00), (.double x01), (.double x02)]) (V_t1 : Ary tr Z h0 t1 .double [(.double x10), (.double x11), (.double x12)]) (V_t2 : Ary tr Z h0 t2 .double [(.double x20), (.double x21), (.double x22)]) (V_o1 : Ary tr Z h0 o1 .long [(.long hh0), (.long hh1), (.long hh2)]) (V_o2 : Ary tr Z h0 o2 .long [(.long gg0), (.long gg1), (.long gg2)]) (hn47_1 : (NoNaN64 (FP.dmul x01 (FP.i2d (p5 * p6))))) :
    MetFree l (⟨"com/example/volts_to_velocity/voltstovelocity/ScoreNoiseCovariancePinLaw", "ok", "([[D[J[JJJIIII)Z"⟩ : MethodName) (head1 (Jvm.Cond.code (⟨"com/example/volts_to_velocity/voltstovelocity/ScoreNoiseCovariancePinLaw", "ok", "([[D[J[JJJIIII)Z"⟩ : MethodName) method_3_code 13 (some .boolean) :: ws) ({ frames := 0, cells := 0, slots := 0, locals := 0 } : Room)) (fun a U => a = #[(.ref o0), (.ref o1), (.ref o2), (.long p3), (.long p4), (.int p5), (.int p6), (.int (0 : Int32)), (.int (1 : Int32))] ∧ Z.Warmed39 U.vm ∧ U.heap = h0) (fun _ _ _ _ _ => True) (fun _ U o U' => ∃ v L, o = .returned v ∧ Q701 Z o0 o1 o2 p3 p4 p5 p6 t0 t1 t2 x00 x01 x02 x10 x11 x12 x20 x21 x22 hh0 hh1 hh2 gg0 gg1 gg2 h0 n0 v U'.heap L ∧ FrameEnd U o U' L ({ frames := 0, cells := 0, slots := 0, locals := 0 } : Room).cells ({ frames := 0, cells := 0, slots := 0, locals := 0 } : Room).slots) := by
  refine MetFree.of_bodySF (plainFor_of_name pn_com_example_volts_to_velocity_voltstovelocity_ScoreNoiseCovariancePinLaw) hisR ?_
  intro p e s m args below meth c s₁ Bd hml0 hP hK
  obtain ⟨rfl, hZ, hh⟩ := hP
  have hx := Bd.exec
  have hby := Bd.bytes
  have hml : c.maxLocals = 13 := hml0
  have hown : s.vm.findClass "com/example/volts_to_velocity/voltstovelocity/ScoreNoiseCovariancePinLaw" = some m.cls := findClass_of_methodNamed Bd.named
  have hnm := (name_of_methodNamed Bd.named Bd.method).1
  have X0 : Stand p l e ({ frames := 0, cells := 0, slots := 0, locals := 0 } : Room) s m #[(.ref o0), (.ref o1), (.ref o2), (.long p3), (.long p4), (.int p5), (.int p6), (.int (0 : Int32)), (.int (1 : Int32))] below meth c s₁ [] 0 0 := Stand.of_body Bd
  have eH0 : s₁.heap = h0 := by rw [← hh, Bd.state]; rfl
  have N0 := Fr.nil n0
  show Gt p.tables e below (fun o U' => ∃ v L, o = .returned v ∧ Q701 Z o0 o1 o2 p3 p4 p5 p6 t0 t1 t2 x00 x01 x02 x10 x11 x12 x20 x21 x22 hh0 hh1 hh2 gg0 gg1 gg2 h0 n0 v U'.heap L ∧ FrameEnd s o U' L ({ frames := 0, cells := 0, slots := 0, locals := 0 } : Room).cells ({ frames := 0, cells := 0, slots := 0, locals := 0 } : Room).slots) _
  refine own_cast (ef701 m o0 o1 o2 p3 p4 p5 p6) ?_
  refine own_lloadN X0 hx hby rfl d7_0 (pc' := 1) rfl ?_
  refine own_aloadN X0 hx hby rfl rfl d7_1 (pc' := 2) rfl ?_
  refine own_iload X0 hx hby rfl d7_2 (pc' := 4) rfl ?_
  refine own_laload X0 hx hby hZ eH0 V_o1 (by decide) (v := (.long hh0)) rfl d7_4 (pc' := 5) rfl ?_
  refine own_lmul X0 hx hby rfl d7_5 (pc' := 6) rfl ?_
  refine own_aloadN X0 hx hby rfl rfl d7_6 (pc' := 7) rfl ?_
  refine own_iload X0 hx hby rfl d7_7 (pc' := 9) rfl ?_
  refine own_laload X0 hx hby hZ eH0 V_o1 (by decide) (v := (.long hh1)) rfl d7_9 (pc' := 10) rfl ?_
  refine own_lmul X0 hx hby rfl d7_10 (pc' := 11) rfl ?_
  refine own_iload X0 hx hby rfl d7_11 (pc' := 13) rfl ?_
  refine own_i2l X0 hx hby rfl d7_13 (pc' := 14) rfl ?_
  refine own_lmul X0 hx hby rfl d7_14 (pc' := 15) rfl ?_
  refine own_lload X0 hx hby rfl d7_15 (pc' := 17) rfl ?_
  refine own_aloadN X0 hx hby rfl rfl d7_17 (pc' := 18) rfl ?_
  refine own_iload X0 hx hby rfl d7_18 (pc' := 20) rfl ?_
  refine own_laload X0 hx hby hZ eH0 V_o2 (by decide) (v := (.long gg0)) rfl d7_20 (pc' := 21) rfl ?_
  refine own_lmul X0 hx hby rfl d7_21 (pc' := 22) rfl ?_
  refine own_aloadN X0 hx hby rfl rfl d7_22 (pc' := 23) rfl ?_
  refine own_iload X0 hx hby rfl d7_23 (pc' := 25) rfl ?_
  refine own_laload X0 hx hby hZ eH0 V_o2 (by decide) (v := (.long gg1)) rfl d7_25 (pc' := 26) rfl ?_
  refine own_lmul X0 hx hby rfl d7_26 (pc' := 27) rfl ?_
  refine own_iload X0 hx hby rfl d7_27 (pc' := 29) rfl ?_
  refine own_i2l X0 hx hby rfl d7_29 (pc' := 30) rfl ?_
  refine own_lmul X0 hx hby rfl d7_30 (pc' := 31) rfl ?_
  refine own_ladd X0 hx hby rfl d7_31 (pc' := 32) rfl ?_
  refine own_lstore X0 hx hby (L' := #[.val (.ref o0), .val (.ref o1), .val (.ref o2), .val (.long p3), .second, .val (.long p4), .second, .val (.int p5), .val (.int p6), .val (.int (0 : Int32)), .val (.int (1 : Int32)), .val (.long ((((p3 * hh0) * hh1) * (p6.toInt64)) + (((p4 * gg0) * gg1) * (p5.toInt64)))), .second]) rfl d7_32 (pc' := 34) rfl ?_
  refine own_aloadN X0 hx hby rfl rfl d7_34 (pc' := 35) rfl ?_
  refine own_iload X0 hx hby rfl d7_35 (pc' := 37) rfl ?_
  refine own_aaload X0 hx hby hZ eH0 V_o0 rfl (by decide) (v := (.ref t0)) rfl d7_37 (pc' := 38) rfl ?_
  refine own_iload X0 hx hby rfl d7_38 (pc' := 40) rfl ?_
  refine own_daload X0 hx hby hZ eH0 V_t0 (by decide) (v := (.double x01)) rfl d7_40 (pc' := 41) rfl ?_
  refine own_iload X0 hx hby rfl d7_41 (pc' := 43) rfl ?_
  refine own_iload X0 hx hby rfl d7_43 (pc' := 45) rfl ?_
  refine own_imul X0 hx hby rfl d7_45 (pc' := 46) rfl ?_
  refine own_i2d X0 hx hby rfl d7_46 (pc' := 47) rfl ?_
  refine own_dmul X0 hx hby hn47_1 rfl d7_47 (pc' := 48) rfl ?_
  refine own_lload X0 hx hby rfl d7_48 (pc' := 50) rfl ?_
  refine own_l2d X0 hx hby rfl d7_50 (pc' := 51) rfl ?_
  refine own_dcmp X0 hx hby rfl d7_51 (pc' := 52) rfl ?_
  by_cases hc1 : deq (FP.dmul x01 (FP.i2d (p5 * p6))) (FP.l2d ((((p3 * hh0) * hh1) * (p6.toInt64)) + (((p4 * gg0) * gg1) * (p5.toInt64))))
  · refine own_ifF X0 hx hby d7_52 (own_dl_ne_p hc1) (pc' := 55) rfl ?_
    refine own_iconst X0 hx hby (v := (1 : Int32)) (by decide) d7_55 (pc' := 56) rfl ?_
    refine own_goto X0 hx hby d7_56 (by decide) (pc' := 60) (by decide) ?_
    exact own_retZ X0 hx hby Bd.notSynchronized Bd.returns (Or.inr rfl) d7_60 (by decide) (by decide) eH0 ⟨(by rw [if_pos hc1]), N0, rfl⟩
  · refine own_ifT X0 hx hby d7_52 (own_dl_ne_n hc1) (by decide) (pc' := 59) (by decide) ?_
    refine own_iconst X0 hx hby (v := (0 : Int32)) (by decide) d7_59 (pc' := 60) rfl ?_
    exact own_retZ X0 hx hby Bd.notSynchronized Bd.returns (Or.inl rfl) d7_60 (by decide) (by decide) eH0 ⟨(by rw [if_neg hc1]), N0, rfl⟩
theorem ef702 (m : MethodId) (x0 : Addr) (x1 : Addr) (x2 : Addr) (x3 : Int64) (x4 : Int64) (x5 : Int32) (x6 : Int32) : entryFrame m #[(.ref x0), (.ref x1), (.ref x2), (.long x3), (.long x4), (.int x5), (.int x6), (.int (0 : Int32)), (.int (2 : Int32))] 13 = mkF m 0 #[.val (.ref x0), .val (.ref x1), .val (.ref x2), .val (.long x3), .second, .val (.long x4), .second, .val (.int x5), .val (.int x6), .val (.int (0 : Int32)), .val (.int (2 : Int32)), .unset, .unset] [] := by first | (simp [entryFrame, mkF, argsToLocals, Value.category]; done) | rfl
def Q702 (Z : State) (o0 : Addr) (o1 : Addr) (o2 : Addr) (p3 : Int64) (p4 : Int64) (p5 : Int32) (p6 : Int32) (t0 : Addr) (t1 : Addr) (t2 : Addr) (x00 : UInt64) (x01 : UInt64) (x02 : UInt64) (x10 : UInt64) (x11 : UInt64) (x12 : UInt64) (x20 : UInt64) (x21 : UInt64) (x22 : UInt64) (hh0 : Int64) (hh1 : Int64) (hh2 : Int64) (gg0 : Int64) (gg1 : Int64) (gg2 : Int64) (h0 : Heap) (n0 : Nat) (v : Option Value) (h : Heap) (L : List Loc) : Prop := v = some (.int (if deq (FP.dmul x02 (FP.i2d (p5 * p6))) (FP.l2d ((((p3 * hh0) * hh2) * (p6.toInt64)) + (((p4 * gg0) * gg2) * (p5.toInt64)))) then (1 : Int32) else (0 : Int32))) ∧ Fr n0 L ∧ h0 = h
set_option maxRecDepth 65536 in
set_option maxHeartbeats 40000000 in
theorem rm702 (l : Launch) (Z : State) (a0 : Array Value) (hw : ∀ d ∈ tables_1, d.before a0 Z = true) (ws : List Jvm.Cond) (o0 : Addr) (o1 : Addr) (o2 : Addr) (p3 : Int64) (p4 : Int64) (p5 : Int32) (p6 : Int32) (t0 : Addr) (t1 : Addr) (t2 : Addr) (x00 : UInt64) (x01 : UInt64) (x02 : UInt64) (x10 : UInt64) (x11 : UInt64) (x12 : UInt64) (x20 : UInt64) (x21 : UInt64) (x22 : UInt64) (hh0 : Int64) (hh1 : Int64) (hh2 : Int64) (gg0 : Int64) (gg1 : Int64) (gg2 : Int64) (h0 : Heap) (n0 : Nat) (Z0 : n0 ≤ h0.size) (V_o0 : Ary (ovA Z .double "[D") Z h0 o0 (.array .double) [(.ref t0), (.ref t1), (.ref t2)]) (V_t0 : Ary tr Z h0 t0 .double [(.double x00), (.double x01), (.double x02)]) (V_t1 : Ary tr Z h0 t1 .double [(.double x10), (.double x11), (.double x12)]) (V_t2 : Ary tr Z h0 t2 .double [(.double x20), (.double x21), (.double x22)]) (V_o1 : Ary tr Z h0 o1 .long [(.long hh0), (.long hh1), (.long hh2)]) (V_o2 : Ary tr Z h0 o2 .long [(.long gg0), (.long gg1), (.long gg2)]) (hn47_1 : (NoNaN64 (FP.dmul x02 (FP.i2d (p5 * p6))))) :
    MetFree l (⟨"com/example/volts_to_velocity/voltstovelocity/ScoreNoiseCovariancePinLaw", "ok", "([[D[J[JJJIIII)Z"⟩ : MethodName) (head1 (Jvm.Cond.code (⟨"com/example/volts_to_velocity/voltstovelocity/ScoreNoiseCovariancePinLaw", "ok", "([[D[J[JJJIIII)Z"⟩ : MethodName) method_3_code 13 (some .boolean) :: ws) ({ frames := 0, cells := 0, slots := 0, locals := 0 } : Room)) (fun a U => a = #[(.ref o0), (.ref o1), (.ref o2), (.long p3), (.long p4), (.int p5), (.int p6), (.int (0 : Int32)), (.int (2 : Int32))] ∧ Z.Warmed39 U.vm ∧ U.heap = h0) (fun _ _ _ _ _ => True) (fun _ U o U' => ∃ v L, o = .returned v ∧ Q702 Z o0 o1 o2 p3 p4 p5 p6 t0 t1 t2 x00 x01 x02 x10 x11 x12 x20 x21 x22 hh0 hh1 hh2 gg0 gg1 gg2 h0 n0 v U'.heap L ∧ FrameEnd U o U' L ({ frames := 0, cells := 0, slots := 0, locals := 0 } : Room).cells ({ frames := 0, cells := 0, slots := 0, locals := 0 } : Room).slots) := by
  refine MetFree.of_bodySF (plainFor_of_name pn_com_example_volts_to_velocity_voltstovelocity_ScoreNoiseCovariancePinLaw) hisR ?_
  intro p e s m args below meth c s₁ Bd hml0 hP hK
  obtain ⟨rfl, hZ, hh⟩ := hP
  have hx := Bd.exec
  have hby := Bd.bytes
  have hml : c.maxLocals = 13 := hml0
  have hown : s.vm.findClass "com/example/volts_to_velocity/voltstovelocity/ScoreNoiseCovariancePinLaw" = some m.cls := findClass_of_methodNamed Bd.named
  have hnm := (name_of_methodNamed Bd.named Bd.method).1
  have X0 : Stand p l e ({ frames := 0, cells := 0, slots := 0, locals := 0 } : Room) s m #[(.ref o0), (.ref o1), (.ref o2), (.long p3), (.long p4), (.int p5), (.int p6), (.int (0 : Int32)), (.int (2 : Int32))] below meth c s₁ [] 0 0 := Stand.of_body Bd
  have eH0 : s₁.heap = h0 := by rw [← hh, Bd.state]; rfl
  have N0 := Fr.nil n0
  show Gt p.tables e below (fun o U' => ∃ v L, o = .returned v ∧ Q702 Z o0 o1 o2 p3 p4 p5 p6 t0 t1 t2 x00 x01 x02 x10 x11 x12 x20 x21 x22 hh0 hh1 hh2 gg0 gg1 gg2 h0 n0 v U'.heap L ∧ FrameEnd s o U' L ({ frames := 0, cells := 0, slots := 0, locals := 0 } : Room).cells ({ frames := 0, cells := 0, slots := 0, locals := 0 } : Room).slots) _
  refine own_cast (ef702 m o0 o1 o2 p3 p4 p5 p6) ?_
  refine own_lloadN X0 hx hby rfl d7_0 (pc' := 1) rfl ?_
  refine own_aloadN X0 hx hby rfl rfl d7_1 (pc' := 2) rfl ?_
  refine own_iload X0 hx hby rfl d7_2 (pc' := 4) rfl ?_
  refine own_laload X0 hx hby hZ eH0 V_o1 (by decide) (v := (.long hh0)) rfl d7_4 (pc' := 5) rfl ?_
  refine own_lmul X0 hx hby rfl d7_5 (pc' := 6) rfl ?_
  refine own_aloadN X0 hx hby rfl rfl d7_6 (pc' := 7) rfl ?_
  refine own_iload X0 hx hby rfl d7_7 (pc' := 9) rfl ?_
  refine own_laload X0 hx hby hZ eH0 V_o1 (by decide) (v := (.long hh2)) rfl d7_9 (pc' := 10) rfl ?_
  refine own_lmul X0 hx hby rfl d7_10 (pc' := 11) rfl ?_
  refine own_iload X0 hx hby rfl d7_11 (pc' := 13) rfl ?_
  refine own_i2l X0 hx hby rfl d7_13 (pc' := 14) rfl ?_
  refine own_lmul X0 hx hby rfl d7_14 (pc' := 15) rfl ?_
  refine own_lload X0 hx hby rfl d7_15 (pc' := 17) rfl ?_
  refine own_aloadN X0 hx hby rfl rfl d7_17 (pc' := 18) rfl ?_
  refine own_iload X0 hx hby rfl d7_18 (pc' := 20) rfl ?_
  refine own_laload X0 hx hby hZ eH0 V_o2 (by decide) (v := (.long gg0)) rfl d7_20 (pc' := 21) rfl ?_
  refine own_lmul X0 hx hby rfl d7_21 (pc' := 22) rfl ?_
  refine own_aloadN X0 hx hby rfl rfl d7_22 (pc' := 23) rfl ?_
  refine own_iload X0 hx hby rfl d7_23 (pc' := 25) rfl ?_
  refine own_laload X0 hx hby hZ eH0 V_o2 (by decide) (v := (.long gg2)) rfl d7_25 (pc' := 26) rfl ?_
  refine own_lmul X0 hx hby rfl d7_26 (pc' := 27) rfl ?_
  refine own_iload X0 hx hby rfl d7_27 (pc' := 29) rfl ?_
  refine own_i2l X0 hx hby rfl d7_29 (pc' := 30) rfl ?_
  refine own_lmul X0 hx hby rfl d7_30 (pc' := 31) rfl ?_
  refine own_ladd X0 hx hby rfl d7_31 (pc' := 32) rfl ?_
  refine own_lstore X0 hx hby (L' := #[.val (.ref o0), .val (.ref o1), .val (.ref o2), .val (.long p3), .second, .val (.long p4), .second, .val (.int p5), .val (.int p6), .val (.int (0 : Int32)), .val (.int (2 : Int32)), .val (.long ((((p3 * hh0) * hh2) * (p6.toInt64)) + (((p4 * gg0) * gg2) * (p5.toInt64)))), .second]) rfl d7_32 (pc' := 34) rfl ?_
  refine own_aloadN X0 hx hby rfl rfl d7_34 (pc' := 35) rfl ?_
  refine own_iload X0 hx hby rfl d7_35 (pc' := 37) rfl ?_
  refine own_aaload X0 hx hby hZ eH0 V_o0 rfl (by decide) (v := (.ref t0)) rfl d7_37 (pc' := 38) rfl ?_
  refine own_iload X0 hx hby rfl d7_38 (pc' := 40) rfl ?_
  refine own_daload X0 hx hby hZ eH0 V_t0 (by decide) (v := (.double x02)) rfl d7_40 (pc' := 41) rfl ?_
  refine own_iload X0 hx hby rfl d7_41 (pc' := 43) rfl ?_
  refine own_iload X0 hx hby rfl d7_43 (pc' := 45) rfl ?_
  refine own_imul X0 hx hby rfl d7_45 (pc' := 46) rfl ?_
  refine own_i2d X0 hx hby rfl d7_46 (pc' := 47) rfl ?_
  refine own_dmul X0 hx hby hn47_1 rfl d7_47 (pc' := 48) rfl ?_
  refine own_lload X0 hx hby rfl d7_48 (pc' := 50) rfl ?_
  refine own_l2d X0 hx hby rfl d7_50 (pc' := 51) rfl ?_
  refine own_dcmp X0 hx hby rfl d7_51 (pc' := 52) rfl ?_
  by_cases hc1 : deq (FP.dmul x02 (FP.i2d (p5 * p6))) (FP.l2d ((((p3 * hh0) * hh2) * (p6.toInt64)) + (((p4 * gg0) * gg2) * (p5.toInt64))))
  · refine own_ifF X0 hx hby d7_52 (own_dl_ne_p hc1) (pc' := 55) rfl ?_
    refine own_iconst X0 hx hby (v := (1 : Int32)) (by decide) d7_55 (pc' := 56) rfl ?_
    refine own_goto X0 hx hby d7_56 (by decide) (pc' := 60) (by decide) ?_
    exact own_retZ X0 hx hby Bd.notSynchronized Bd.returns (Or.inr rfl) d7_60 (by decide) (by decide) eH0 ⟨(by rw [if_pos hc1]), N0, rfl⟩
  · refine own_ifT X0 hx hby d7_52 (own_dl_ne_n hc1) (by decide) (pc' := 59) (by decide) ?_
    refine own_iconst X0 hx hby (v := (0 : Int32)) (by decide) d7_59 (pc' := 60) rfl ?_
    exact own_retZ X0 hx hby Bd.notSynchronized Bd.returns (Or.inl rfl) d7_60 (by decide) (by decide) eH0 ⟨(by rw [if_neg hc1]), N0, rfl⟩
theorem ef710 (m : MethodId) (x0 : Addr) (x1 : Addr) (x2 : Addr) (x3 : Int64) (x4 : Int64) (x5 : Int32) (x6 : Int32) : entryFrame m #[(.ref x0), (.ref x1), (.ref x2), (.long x3), (.long x4), (.int x5), (.int x6), (.int (1 : Int32)), (.int (0 : Int32))] 13 = mkF m 0 #[.val (.ref x0), .val (.ref x1), .val (.ref x2), .val (.long x3), .second, .val (.long x4), .second, .val (.int x5), .val (.int x6), .val (.int (1 : Int32)), .val (.int (0 : Int32)), .unset, .unset] [] := by first | (simp [entryFrame, mkF, argsToLocals, Value.category]; done) | rfl
def Q710 (Z : State) (o0 : Addr) (o1 : Addr) (o2 : Addr) (p3 : Int64) (p4 : Int64) (p5 : Int32) (p6 : Int32) (t0 : Addr) (t1 : Addr) (t2 : Addr) (x00 : UInt64) (x01 : UInt64) (x02 : UInt64) (x10 : UInt64) (x11 : UInt64) (x12 : UInt64) (x20 : UInt64) (x21 : UInt64) (x22 : UInt64) (hh0 : Int64) (hh1 : Int64) (hh2 : Int64) (gg0 : Int64) (gg1 : Int64) (gg2 : Int64) (h0 : Heap) (n0 : Nat) (v : Option Value) (h : Heap) (L : List Loc) : Prop := v = some (.int (if deq (FP.dmul x10 (FP.i2d (p5 * p6))) (FP.l2d ((((p3 * hh1) * hh0) * (p6.toInt64)) + (((p4 * gg1) * gg0) * (p5.toInt64)))) then (1 : Int32) else (0 : Int32))) ∧ Fr n0 L ∧ h0 = h
set_option maxRecDepth 65536 in
set_option maxHeartbeats 40000000 in
theorem rm710 (l : Launch) (Z : State) (a0 : Array Value) (hw : ∀ d ∈ tables_1, d.before a0 Z = true) (ws : List Jvm.Cond) (o0 : Addr) (o1 : Addr) (o2 : Addr) (p3 : Int64) (p4 : Int64) (p5 : Int32) (p6 : Int32) (t0 : Addr) (t1 : Addr) (t2 : Addr) (x00 : UInt64) (x01 : UInt64) (x02 : UInt64) (x10 : UInt64) (x11 : UInt64) (x12 : UInt64) (x20 : UInt64) (x21 : UInt64) (x22 : UInt64) (hh0 : Int64) (hh1 : Int64) (hh2 : Int64) (gg0 : Int64) (gg1 : Int64) (gg2 : Int64) (h0 : Heap) (n0 : Nat) (Z0 : n0 ≤ h0.size) (V_o0 : Ary (ovA Z .double "[D") Z h0 o0 (.array .double) [(.ref t0), (.ref t1), (.ref t2)]) (V_t0 : Ary tr Z h0 t0 .double [(.double x00), (.double x01), (.double x02)]) (V_t1 : Ary tr Z h0 t1 .double [(.double x10), (.double x11), (.double x12)]) (V_t2 : Ary tr Z h0 t2 .double [(.double x20), (.double x21), (.double x22)]) (V_o1 : Ary tr Z h0 o1 .long [(.long hh0), (.long hh1), (.long hh2)]) (V_o2 : Ary tr Z h0 o2 .long [(.long gg0), (.long gg1), (.long gg2)]) (hn47_1 : (NoNaN64 (FP.dmul x10 (FP.i2d (p5 * p6))))) :
    MetFree l (⟨"com/example/volts_to_velocity/voltstovelocity/ScoreNoiseCovariancePinLaw", "ok", "([[D[J[JJJIIII)Z"⟩ : MethodName) (head1 (Jvm.Cond.code (⟨"com/example/volts_to_velocity/voltstovelocity/ScoreNoiseCovariancePinLaw", "ok", "([[D[J[JJJIIII)Z"⟩ : MethodName) method_3_code 13 (some .boolean) :: ws) ({ frames := 0, cells := 0, slots := 0, locals := 0 } : Room)) (fun a U => a = #[(.ref o0), (.ref o1), (.ref o2), (.long p3), (.long p4), (.int p5), (.int p6), (.int (1 : Int32)), (.int (0 : Int32))] ∧ Z.Warmed39 U.vm ∧ U.heap = h0) (fun _ _ _ _ _ => True) (fun _ U o U' => ∃ v L, o = .returned v ∧ Q710 Z o0 o1 o2 p3 p4 p5 p6 t0 t1 t2 x00 x01 x02 x10 x11 x12 x20 x21 x22 hh0 hh1 hh2 gg0 gg1 gg2 h0 n0 v U'.heap L ∧ FrameEnd U o U' L ({ frames := 0, cells := 0, slots := 0, locals := 0 } : Room).cells ({ frames := 0, cells := 0, slots := 0, locals := 0 } : Room).slots) := by
  refine MetFree.of_bodySF (plainFor_of_name pn_com_example_volts_to_velocity_voltstovelocity_ScoreNoiseCovariancePinLaw) hisR ?_
  intro p e s m args below meth c s₁ Bd hml0 hP hK
  obtain ⟨rfl, hZ, hh⟩ := hP
  have hx := Bd.exec
  have hby := Bd.bytes
  have hml : c.maxLocals = 13 := hml0
  have hown : s.vm.findClass "com/example/volts_to_velocity/voltstovelocity/ScoreNoiseCovariancePinLaw" = some m.cls := findClass_of_methodNamed Bd.named
  have hnm := (name_of_methodNamed Bd.named Bd.method).1
  have X0 : Stand p l e ({ frames := 0, cells := 0, slots := 0, locals := 0 } : Room) s m #[(.ref o0), (.ref o1), (.ref o2), (.long p3), (.long p4), (.int p5), (.int p6), (.int (1 : Int32)), (.int (0 : Int32))] below meth c s₁ [] 0 0 := Stand.of_body Bd
  have eH0 : s₁.heap = h0 := by rw [← hh, Bd.state]; rfl
  have N0 := Fr.nil n0
  show Gt p.tables e below (fun o U' => ∃ v L, o = .returned v ∧ Q710 Z o0 o1 o2 p3 p4 p5 p6 t0 t1 t2 x00 x01 x02 x10 x11 x12 x20 x21 x22 hh0 hh1 hh2 gg0 gg1 gg2 h0 n0 v U'.heap L ∧ FrameEnd s o U' L ({ frames := 0, cells := 0, slots := 0, locals := 0 } : Room).cells ({ frames := 0, cells := 0, slots := 0, locals := 0 } : Room).slots) _
  refine own_cast (ef710 m o0 o1 o2 p3 p4 p5 p6) ?_
  refine own_lloadN X0 hx hby rfl d7_0 (pc' := 1) rfl ?_
  refine own_aloadN X0 hx hby rfl rfl d7_1 (pc' := 2) rfl ?_
  refine own_iload X0 hx hby rfl d7_2 (pc' := 4) rfl ?_
  refine own_laload X0 hx hby hZ eH0 V_o1 (by decide) (v := (.long hh1)) rfl d7_4 (pc' := 5) rfl ?_
  refine own_lmul X0 hx hby rfl d7_5 (pc' := 6) rfl ?_
  refine own_aloadN X0 hx hby rfl rfl d7_6 (pc' := 7) rfl ?_
  refine own_iload X0 hx hby rfl d7_7 (pc' := 9) rfl ?_
  refine own_laload X0 hx hby hZ eH0 V_o1 (by decide) (v := (.long hh0)) rfl d7_9 (pc' := 10) rfl ?_
  refine own_lmul X0 hx hby rfl d7_10 (pc' := 11) rfl ?_
  refine own_iload X0 hx hby rfl d7_11 (pc' := 13) rfl ?_
  refine own_i2l X0 hx hby rfl d7_13 (pc' := 14) rfl ?_
  refine own_lmul X0 hx hby rfl d7_14 (pc' := 15) rfl ?_
  refine own_lload X0 hx hby rfl d7_15 (pc' := 17) rfl ?_
  refine own_aloadN X0 hx hby rfl rfl d7_17 (pc' := 18) rfl ?_
  refine own_iload X0 hx hby rfl d7_18 (pc' := 20) rfl ?_
  refine own_laload X0 hx hby hZ eH0 V_o2 (by decide) (v := (.long gg1)) rfl d7_20 (pc' := 21) rfl ?_
  refine own_lmul X0 hx hby rfl d7_21 (pc' := 22) rfl ?_
  refine own_aloadN X0 hx hby rfl rfl d7_22 (pc' := 23) rfl ?_
  refine own_iload X0 hx hby rfl d7_23 (pc' := 25) rfl ?_
  refine own_laload X0 hx hby hZ eH0 V_o2 (by decide) (v := (.long gg0)) rfl d7_25 (pc' := 26) rfl ?_
  refine own_lmul X0 hx hby rfl d7_26 (pc' := 27) rfl ?_
  refine own_iload X0 hx hby rfl d7_27 (pc' := 29) rfl ?_
  refine own_i2l X0 hx hby rfl d7_29 (pc' := 30) rfl ?_
  refine own_lmul X0 hx hby rfl d7_30 (pc' := 31) rfl ?_
  refine own_ladd X0 hx hby rfl d7_31 (pc' := 32) rfl ?_
  refine own_lstore X0 hx hby (L' := #[.val (.ref o0), .val (.ref o1), .val (.ref o2), .val (.long p3), .second, .val (.long p4), .second, .val (.int p5), .val (.int p6), .val (.int (1 : Int32)), .val (.int (0 : Int32)), .val (.long ((((p3 * hh1) * hh0) * (p6.toInt64)) + (((p4 * gg1) * gg0) * (p5.toInt64)))), .second]) rfl d7_32 (pc' := 34) rfl ?_
  refine own_aloadN X0 hx hby rfl rfl d7_34 (pc' := 35) rfl ?_
  refine own_iload X0 hx hby rfl d7_35 (pc' := 37) rfl ?_
  refine own_aaload X0 hx hby hZ eH0 V_o0 rfl (by decide) (v := (.ref t1)) rfl d7_37 (pc' := 38) rfl ?_
  refine own_iload X0 hx hby rfl d7_38 (pc' := 40) rfl ?_
  refine own_daload X0 hx hby hZ eH0 V_t1 (by decide) (v := (.double x10)) rfl d7_40 (pc' := 41) rfl ?_
  refine own_iload X0 hx hby rfl d7_41 (pc' := 43) rfl ?_
  refine own_iload X0 hx hby rfl d7_43 (pc' := 45) rfl ?_
  refine own_imul X0 hx hby rfl d7_45 (pc' := 46) rfl ?_
  refine own_i2d X0 hx hby rfl d7_46 (pc' := 47) rfl ?_
  refine own_dmul X0 hx hby hn47_1 rfl d7_47 (pc' := 48) rfl ?_
  refine own_lload X0 hx hby rfl d7_48 (pc' := 50) rfl ?_
  refine own_l2d X0 hx hby rfl d7_50 (pc' := 51) rfl ?_
  refine own_dcmp X0 hx hby rfl d7_51 (pc' := 52) rfl ?_
  by_cases hc1 : deq (FP.dmul x10 (FP.i2d (p5 * p6))) (FP.l2d ((((p3 * hh1) * hh0) * (p6.toInt64)) + (((p4 * gg1) * gg0) * (p5.toInt64))))
  · refine own_ifF X0 hx hby d7_52 (own_dl_ne_p hc1) (pc' := 55) rfl ?_
    refine own_iconst X0 hx hby (v := (1 : Int32)) (by decide) d7_55 (pc' := 56) rfl ?_
    refine own_goto X0 hx hby d7_56 (by decide) (pc' := 60) (by decide) ?_
    exact own_retZ X0 hx hby Bd.notSynchronized Bd.returns (Or.inr rfl) d7_60 (by decide) (by decide) eH0 ⟨(by rw [if_pos hc1]), N0, rfl⟩
  · refine own_ifT X0 hx hby d7_52 (own_dl_ne_n hc1) (by decide) (pc' := 59) (by decide) ?_
    refine own_iconst X0 hx hby (v := (0 : Int32)) (by decide) d7_59 (pc' := 60) rfl ?_
    exact own_retZ X0 hx hby Bd.notSynchronized Bd.returns (Or.inl rfl) d7_60 (by decide) (by decide) eH0 ⟨(by rw [if_neg hc1]), N0, rfl⟩
theorem ef711 (m : MethodId) (x0 : Addr) (x1 : Addr) (x2 : Addr) (x3 : Int64) (x4 : Int64) (x5 : Int32) (x6 : Int32) : entryFrame m #[(.ref x0), (.ref x1), (.ref x2), (.long x3), (.long x4), (.int x5), (.int x6), (.int (1 : Int32)), (.int (1 : Int32))] 13 = mkF m 0 #[.val (.ref x0), .val (.ref x1), .val (.ref x2), .val (.long x3), .second, .val (.long x4), .second, .val (.int x5), .val (.int x6), .val (.int (1 : Int32)), .val (.int (1 : Int32)), .unset, .unset] [] := by first | (simp [entryFrame, mkF, argsToLocals, Value.category]; done) | rfl
def Q711 (Z : State) (o0 : Addr) (o1 : Addr) (o2 : Addr) (p3 : Int64) (p4 : Int64) (p5 : Int32) (p6 : Int32) (t0 : Addr) (t1 : Addr) (t2 : Addr) (x00 : UInt64) (x01 : UInt64) (x02 : UInt64) (x10 : UInt64) (x11 : UInt64) (x12 : UInt64) (x20 : UInt64) (x21 : UInt64) (x22 : UInt64) (hh0 : Int64) (hh1 : Int64) (hh2 : Int64) (gg0 : Int64) (gg1 : Int64) (gg2 : Int64) (h0 : Heap) (n0 : Nat) (v : Option Value) (h : Heap) (L : List Loc) : Prop := v = some (.int (if deq (FP.dmul x11 (FP.i2d (p5 * p6))) (FP.l2d ((((p3 * hh1) * hh1) * (p6.toInt64)) + (((p4 * gg1) * gg1) * (p5.toInt64)))) then (1 : Int32) else (0 : Int32))) ∧ Fr n0 L ∧ h0 = h
set_option maxRecDepth 65536 in
set_option maxHeartbeats 40000000 in
theorem rm711 (l : Launch) (Z : State) (a0 : Array Value) (hw : ∀ d ∈ tables_1, d.before a0 Z = true) (ws : List Jvm.Cond) (o0 : Addr) (o1 : Addr) (o2 : Addr) (p3 : Int64) (p4 : Int64) (p5 : Int32) (p6 : Int32) (t0 : Addr) (t1 : Addr) (t2 : Addr) (x00 : UInt64) (x01 : UInt64) (x02 : UInt64) (x10 : UInt64) (x11 : UInt64) (x12 : UInt64) (x20 : UInt64) (x21 : UInt64) (x22 : UInt64) (hh0 : Int64) (hh1 : Int64) (hh2 : Int64) (gg0 : Int64) (gg1 : Int64) (gg2 : Int64) (h0 : Heap) (n0 : Nat) (Z0 : n0 ≤ h0.size) (V_o0 : Ary (ovA Z .double "[D") Z h0 o0 (.array .double) [(.ref t0), (.ref t1), (.ref t2)]) (V_t0 : Ary tr Z h0 t0 .double [(.double x00), (.double x01), (.double x02)]) (V_t1 : Ary tr Z h0 t1 .double [(.double x10), (.double x11), (.double x12)]) (V_t2 : Ary tr Z h0 t2 .double [(.double x20), (.double x21), (.double x22)]) (V_o1 : Ary tr Z h0 o1 .long [(.long hh0), (.long hh1), (.long hh2)]) (V_o2 : Ary tr Z h0 o2 .long [(.long gg0), (.long gg1), (.long gg2)]) (hn47_1 : (NoNaN64 (FP.dmul x11 (FP.i2d (p5 * p6))))) :
    MetFree l (⟨"com/example/volts_to_velocity/voltstovelocity/ScoreNoiseCovariancePinLaw", "ok", "([[D[J[JJJIIII)Z"⟩ : MethodName) (head1 (Jvm.Cond.code (⟨"com/example/volts_to_velocity/voltstovelocity/ScoreNoiseCovariancePinLaw", "ok", "([[D[J[JJJIIII)Z"⟩ : MethodName) method_3_code 13 (some .boolean) :: ws) ({ frames := 0, cells := 0, slots := 0, locals := 0 } : Room)) (fun a U => a = #[(.ref o0), (.ref o1), (.ref o2), (.long p3), (.long p4), (.int p5), (.int p6), (.int (1 : Int32)), (.int (1 : Int32))] ∧ Z.Warmed39 U.vm ∧ U.heap = h0) (fun _ _ _ _ _ => True) (fun _ U o U' => ∃ v L, o = .returned v ∧ Q711 Z o0 o1 o2 p3 p4 p5 p6 t0 t1 t2 x00 x01 x02 x10 x11 x12 x20 x21 x22 hh0 hh1 hh2 gg0 gg1 gg2 h0 n0 v U'.heap L ∧ FrameEnd U o U' L ({ frames := 0, cells := 0, slots := 0, locals := 0 } : Room).cells ({ frames := 0, cells := 0, slots := 0, locals := 0 } : Room).slots) := by
  refine MetFree.of_bodySF (plainFor_of_name pn_com_example_volts_to_velocity_voltstovelocity_ScoreNoiseCovariancePinLaw) hisR ?_
  intro p e s m args below meth c s₁ Bd hml0 hP hK
  obtain ⟨rfl, hZ, hh⟩ := hP
  have hx := Bd.exec
  have hby := Bd.bytes
  have hml : c.maxLocals = 13 := hml0
  have hown : s.vm.findClass "com/example/volts_to_velocity/voltstovelocity/ScoreNoiseCovariancePinLaw" = some m.cls := findClass_of_methodNamed Bd.named
  have hnm := (name_of_methodNamed Bd.named Bd.method).1
  have X0 : Stand p l e ({ frames := 0, cells := 0, slots := 0, locals := 0 } : Room) s m #[(.ref o0), (.ref o1), (.ref o2), (.long p3), (.long p4), (.int p5), (.int p6), (.int (1 : Int32)), (.int (1 : Int32))] below meth c s₁ [] 0 0 := Stand.of_body Bd
  have eH0 : s₁.heap = h0 := by rw [← hh, Bd.state]; rfl
  have N0 := Fr.nil n0
  show Gt p.tables e below (fun o U' => ∃ v L, o = .returned v ∧ Q711 Z o0 o1 o2 p3 p4 p5 p6 t0 t1 t2 x00 x01 x02 x10 x11 x12 x20 x21 x22 hh0 hh1 hh2 gg0 gg1 gg2 h0 n0 v U'.heap L ∧ FrameEnd s o U' L ({ frames := 0, cells := 0, slots := 0, locals := 0 } : Room).cells ({ frames := 0, cells := 0, slots := 0, locals := 0 } : Room).slots) _
  refine own_cast (ef711 m o0 o1 o2 p3 p4 p5 p6) ?_
  refine own_lloadN X0 hx hby rfl d7_0 (pc' := 1) rfl ?_
  refine own_aloadN X0 hx hby rfl rfl d7_1 (pc' := 2) rfl ?_
  refine own_iload X0 hx hby rfl d7_2 (pc' := 4) rfl ?_
  refine own_laload X0 hx hby hZ eH0 V_o1 (by decide) (v := (.long hh1)) rfl d7_4 (pc' := 5) rfl ?_
  refine own_lmul X0 hx hby rfl d7_5 (pc' := 6) rfl ?_
  refine own_aloadN X0 hx hby rfl rfl d7_6 (pc' := 7) rfl ?_
  refine own_iload X0 hx hby rfl d7_7 (pc' := 9) rfl ?_
  refine own_laload X0 hx hby hZ eH0 V_o1 (by decide) (v := (.long hh1)) rfl d7_9 (pc' := 10) rfl ?_
  refine own_lmul X0 hx hby rfl d7_10 (pc' := 11) rfl ?_
  refine own_iload X0 hx hby rfl d7_11 (pc' := 13) rfl ?_
  refine own_i2l X0 hx hby rfl d7_13 (pc' := 14) rfl ?_
  refine own_lmul X0 hx hby rfl d7_14 (pc' := 15) rfl ?_
  refine own_lload X0 hx hby rfl d7_15 (pc' := 17) rfl ?_
  refine own_aloadN X0 hx hby rfl rfl d7_17 (pc' := 18) rfl ?_
  refine own_iload X0 hx hby rfl d7_18 (pc' := 20) rfl ?_
  refine own_laload X0 hx hby hZ eH0 V_o2 (by decide) (v := (.long gg1)) rfl d7_20 (pc' := 21) rfl ?_
  refine own_lmul X0 hx hby rfl d7_21 (pc' := 22) rfl ?_
  refine own_aloadN X0 hx hby rfl rfl d7_22 (pc' := 23) rfl ?_
  refine own_iload X0 hx hby rfl d7_23 (pc' := 25) rfl ?_
  refine own_laload X0 hx hby hZ eH0 V_o2 (by decide) (v := (.long gg1)) rfl d7_25 (pc' := 26) rfl ?_
  refine own_lmul X0 hx hby rfl d7_26 (pc' := 27) rfl ?_
  refine own_iload X0 hx hby rfl d7_27 (pc' := 29) rfl ?_
  refine own_i2l X0 hx hby rfl d7_29 (pc' := 30) rfl ?_
  refine own_lmul X0 hx hby rfl d7_30 (pc' := 31) rfl ?_
  refine own_ladd X0 hx hby rfl d7_31 (pc' := 32) rfl ?_
  refine own_lstore X0 hx hby (L' := #[.val (.ref o0), .val (.ref o1), .val (.ref o2), .val (.long p3), .second, .val (.long p4), .second, .val (.int p5), .val (.int p6), .val (.int (1 : Int32)), .val (.int (1 : Int32)), .val (.long ((((p3 * hh1) * hh1) * (p6.toInt64)) + (((p4 * gg1) * gg1) * (p5.toInt64)))), .second]) rfl d7_32 (pc' := 34) rfl ?_
  refine own_aloadN X0 hx hby rfl rfl d7_34 (pc' := 35) rfl ?_
  refine own_iload X0 hx hby rfl d7_35 (pc' := 37) rfl ?_
  refine own_aaload X0 hx hby hZ eH0 V_o0 rfl (by decide) (v := (.ref t1)) rfl d7_37 (pc' := 38) rfl ?_
  refine own_iload X0 hx hby rfl d7_38 (pc' := 40) rfl ?_
  refine own_daload X0 hx hby hZ eH0 V_t1 (by decide) (v := (.double x11)) rfl d7_40 (pc' := 41) rfl ?_
  refine own_iload X0 hx hby rfl d7_41 (pc' := 43) rfl ?_
  refine own_iload X0 hx hby rfl d7_43 (pc' := 45) rfl ?_
  refine own_imul X0 hx hby rfl d7_45 (pc' := 46) rfl ?_
  refine own_i2d X0 hx hby rfl d7_46 (pc' := 47) rfl ?_
  refine own_dmul X0 hx hby hn47_1 rfl d7_47 (pc' := 48) rfl ?_
  refine own_lload X0 hx hby rfl d7_48 (pc' := 50) rfl ?_
  refine own_l2d X0 hx hby rfl d7_50 (pc' := 51) rfl ?_
  refine own_dcmp X0 hx hby rfl d7_51 (pc' := 52) rfl ?_
  by_cases hc1 : deq (FP.dmul x11 (FP.i2d (p5 * p6))) (FP.l2d ((((p3 * hh1) * hh1) * (p6.toInt64)) + (((p4 * gg1) * gg1) * (p5.toInt64))))
  · refine own_ifF X0 hx hby d7_52 (own_dl_ne_p hc1) (pc' := 55) rfl ?_
    refine own_iconst X0 hx hby (v := (1 : Int32)) (by decide) d7_55 (pc' := 56) rfl ?_
    refine own_goto X0 hx hby d7_56 (by decide) (pc' := 60) (by decide) ?_
    exact own_retZ X0 hx hby Bd.notSynchronized Bd.returns (Or.inr rfl) d7_60 (by decide) (by decide) eH0 ⟨(by rw [if_pos hc1]), N0, rfl⟩
  · refine own_ifT X0 hx hby d7_52 (own_dl_ne_n hc1) (by decide) (pc' := 59) (by decide) ?_
    refine own_iconst X0 hx hby (v := (0 : Int32)) (by decide) d7_59 (pc' := 60) rfl ?_
    exact own_retZ X0 hx hby Bd.notSynchronized Bd.returns (Or.inl rfl) d7_60 (by decide) (by decide) eH0 ⟨(by rw [if_neg hc1]), N0, rfl⟩
theorem ef712 (m : MethodId) (x0 : Addr) (x1 : Addr) (x2 : Addr) (x3 : Int64) (x4 : Int64) (x5 : Int32) (x6 : Int32) : entryFrame m #[(.ref x0), (.ref x1), (.ref x2), (.long x3), (.long x4), (.int x5), (.int x6), (.int (1 : Int32)), (.int (2 : Int32))] 13 = mkF m 0 #[.val (.ref x0), .val (.ref x1), .val (.ref x2), .val (.long x3), .second, .val (.long x4), .second, .val (.int x5), .val (.int x6), .val (.int (1 : Int32)), .val (.int (2 : Int32)), .unset, .unset] [] := by first | (simp [entryFrame, mkF, argsToLocals, Value.category]; done) | rfl
def Q712 (Z : State) (o0 : Addr) (o1 : Addr) (o2 : Addr) (p3 : Int64) (p4 : Int64) (p5 : Int32) (p6 : Int32) (t0 : Addr) (t1 : Addr) (t2 : Addr) (x00 : UInt64) (x01 : UInt64) (x02 : UInt64) (x10 : UInt64) (x11 : UInt64) (x12 : UInt64) (x20 : UInt64) (x21 : UInt64) (x22 : UInt64) (hh0 : Int64) (hh1 : Int64) (hh2 : Int64) (gg0 : Int64) (gg1 : Int64) (gg2 : Int64) (h0 : Heap) (n0 : Nat) (v : Option Value) (h : Heap) (L : List Loc) : Prop := v = some (.int (if deq (FP.dmul x12 (FP.i2d (p5 * p6))) (FP.l2d ((((p3 * hh1) * hh2) * (p6.toInt64)) + (((p4 * gg1) * gg2) * (p5.toInt64)))) then (1 : Int32) else (0 : Int32))) ∧ Fr n0 L ∧ h0 = h
set_option maxRecDepth 65536 in
set_option maxHeartbeats 40000000 in
theorem rm712 (l : Launch) (Z : State) (a0 : Array Value) (hw : ∀ d ∈ tables_1, d.before a0 Z = true) (ws : List Jvm.Cond) (o0 : Addr) (o1 : Addr) (o2 : Addr) (p3 : Int64) (p4 : Int64) (p5 : Int32) (p6 : Int32) (t0 : Addr) (t1 : Addr) (t2 : Addr) (x00 : UInt64) (x01 : UInt64) (x02 : UInt64) (x10 : UInt64) (x11 : UInt64) (x12 : UInt64) (x20 : UInt64) (x21 : UInt64) (x22 : UInt64) (hh0 : Int64) (hh1 : Int64) (hh2 : Int64) (gg0 : Int64) (gg1 : Int64) (gg2 : Int64) (h0 : Heap) (n0 : Nat) (Z0 : n0 ≤ h0.size) (V_o0 : Ary (ovA Z .double "[D") Z h0 o0 (.array .double) [(.ref t0), (.ref t1), (.ref t2)]) (V_t0 : Ary tr Z h0 t0 .double [(.double x00), (.double x01), (.double x02)]) (V_t1 : Ary tr Z h0 t1 .double [(.double x10), (.double x11), (.double x12)]) (V_t2 : Ary tr Z h0 t2 .double [(.double x20), (.double x21), (.double x22)]) (V_o1 : Ary tr Z h0 o1 .long [(.long hh0), (.long hh1), (.long hh2)]) (V_o2 : Ary tr Z h0 o2 .long [(.long gg0), (.long gg1), (.long gg2)]) (hn47_1 : (NoNaN64 (FP.dmul x12 (FP.i2d (p5 * p6))))) :
    MetFree l (⟨"com/example/volts_to_velocity/voltstovelocity/ScoreNoiseCovariancePinLaw", "ok", "([[D[J[JJJIIII)Z"⟩ : MethodName) (head1 (Jvm.Cond.code (⟨"com/example/volts_to_velocity/voltstovelocity/ScoreNoiseCovariancePinLaw", "ok", "([[D[J[JJJIIII)Z"⟩ : MethodName) method_3_code 13 (some .boolean) :: ws) ({ frames := 0, cells := 0, slots := 0, locals := 0 } : Room)) (fun a U => a = #[(.ref o0), (.ref o1), (.ref o2), (.long p3), (.long p4), (.int p5), (.int p6), (.int (1 : Int32)), (.int (2 : Int32))] ∧ Z.Warmed39 U.vm ∧ U.heap = h0) (fun _ _ _ _ _ => True) (fun _ U o U' => ∃ v L, o = .returned v ∧ Q712 Z o0 o1 o2 p3 p4 p5 p6 t0 t1 t2 x00 x01 x02 x10 x11 x12 x20 x21 x22 hh0 hh1 hh2 gg0 gg1 gg2 h0 n0 v U'.heap L ∧ FrameEnd U o U' L ({ frames := 0, cells := 0, slots := 0, locals := 0 } : Room).cells ({ frames := 0, cells := 0, slots := 0, locals := 0 } : Room).slots) := by
  refine MetFree.of_bodySF (plainFor_of_name pn_com_example_volts_to_velocity_voltstovelocity_ScoreNoiseCovariancePinLaw) hisR ?_
  intro p e s m args below meth c s₁ Bd hml0 hP hK
  obtain ⟨rfl, hZ, hh⟩ := hP
  have hx := Bd.exec
  have hby := Bd.bytes
  have hml : c.maxLocals = 13 := hml0
  have hown : s.vm.findClass "com/example/volts_to_velocity/voltstovelocity/ScoreNoiseCovariancePinLaw" = some m.cls := findClass_of_methodNamed Bd.named
  have hnm := (name_of_methodNamed Bd.named Bd.method).1
  have X0 : Stand p l e ({ frames := 0, cells := 0, slots := 0, locals := 0 } : Room) s m #[(.ref o0), (.ref o1), (.ref o2), (.long p3), (.long p4), (.int p5), (.int p6), (.int (1 : Int32)), (.int (2 : Int32))] below meth c s₁ [] 0 0 := Stand.of_body Bd
  have eH0 : s₁.heap = h0 := by rw [← hh, Bd.state]; rfl
  have N0 := Fr.nil n0
  show Gt p.tables e below (fun o U' => ∃ v L, o = .returned v ∧ Q712 Z o0 o1 o2 p3 p4 p5 p6 t0 t1 t2 x00 x01 x02 x10 x11 x12 x20 x21 x22 hh0 hh1 hh2 gg0 gg1 gg2 h0 n0 v U'.heap L ∧ FrameEnd s o U' L ({ frames := 0, cells := 0, slots := 0, locals := 0 } : Room).cells ({ frames := 0, cells := 0, slots := 0, locals := 0 } : Room).slots) _
  refine own_cast (ef712 m o0 o1 o2 p3 p4 p5 p6) ?_
  refine own_lloadN X0 hx hby rfl d7_0 (pc' := 1) rfl ?_
  refine own_aloadN X0 hx hby rfl rfl d7_1 (pc' := 2) rfl ?_
  refine own_iload X0 hx hby rfl d7_2 (pc' := 4) rfl ?_
  refine own_laload X0 hx hby hZ eH0 V_o1 (by decide) (v := (.long hh1)) rfl d7_4 (pc' := 5) rfl ?_
  refine own_lmul X0 hx hby rfl d7_5 (pc' := 6) rfl ?_
  refine own_aloadN X0 hx hby rfl rfl d7_6 (pc' := 7) rfl ?_
  refine own_iload X0 hx hby rfl d7_7 (pc' := 9) rfl ?_
  refine own_laload X0 hx hby hZ eH0 V_o1 (by decide) (v := (.long hh2)) rfl d7_9 (pc' := 10) rfl ?_
  refine own_lmul X0 hx hby rfl d7_10 (pc' := 11) rfl ?_
  refine own_iload X0 hx hby rfl d7_11 (pc' := 13) rfl ?_
  refine own_i2l X0 hx hby rfl d7_13 (pc' := 14) rfl ?_
  refine own_lmul X0 hx hby rfl d7_14 (pc' := 15) rfl ?_
  refine own_lload X0 hx hby rfl d7_15 (pc' := 17) rfl ?_
  refine own_aloadN X0 hx hby rfl rfl d7_17 (pc' := 18) rfl ?_
  refine own_iload X0 hx hby rfl d7_18 (pc' := 20) rfl ?_
  refine own_laload X0 hx hby hZ eH0 V_o2 (by decide) (v := (.long gg1)) rfl d7_20 (pc' := 21) rfl ?_
  refine own_lmul X0 hx hby rfl d7_21 (pc' := 22) rfl ?_
  refine own_aloadN X0 hx hby rfl rfl d7_22 (pc' := 23) rfl ?_
  refine own_iload X0 hx hby rfl d7_23 (pc' := 25) rfl ?_
  refine own_laload X0 hx hby hZ eH0 V_o2 (by decide) (v := (.long gg2)) rfl d7_25 (pc' := 26) rfl ?_
  refine own_lmul X0 hx hby rfl d7_26 (pc' := 27) rfl ?_
  refine own_iload X0 hx hby rfl d7_27 (pc' := 29) rfl ?_
  refine own_i2l X0 hx hby rfl d7_29 (pc' := 30) rfl ?_
  refine own_lmul X0 hx hby rfl d7_30 (pc' := 31) rfl ?_
  refine own_ladd X0 hx hby rfl d7_31 (pc' := 32) rfl ?_
  refine own_lstore X0 hx hby (L' := #[.val (.ref o0), .val (.ref o1), .val (.ref o2), .val (.long p3), .second, .val (.long p4), .second, .val (.int p5), .val (.int p6), .val (.int (1 : Int32)), .val (.int (2 : Int32)), .val (.long ((((p3 * hh1) * hh2) * (p6.toInt64)) + (((p4 * gg1) * gg2) * (p5.toInt64)))), .second]) rfl d7_32 (pc' := 34) rfl ?_
  refine own_aloadN X0 hx hby rfl rfl d7_34 (pc' := 35) rfl ?_
  refine own_iload X0 hx hby rfl d7_35 (pc' := 37) rfl ?_
  refine own_aaload X0 hx hby hZ eH0 V_o0 rfl (by decide) (v := (.ref t1)) rfl d7_37 (pc' := 38) rfl ?_
  refine own_iload X0 hx hby rfl d7_38 (pc' := 40) rfl ?_
  refine own_daload X0 hx hby hZ eH0 V_t1 (by decide) (v := (.double x12)) rfl d7_40 (pc' := 41) rfl ?_
  refine own_iload X0 hx hby rfl d7_41 (pc' := 43) rfl ?_
  refine own_iload X0 hx hby rfl d7_43 (pc' := 45) rfl ?_
  refine own_imul X0 hx hby rfl d7_45 (pc' := 46) rfl ?_
  refine own_i2d X0 hx hby rfl d7_46 (pc' := 47) rfl ?_
  refine own_dmul X0 hx hby hn47_1 rfl d7_47 (pc' := 48) rfl ?_
  refine own_lload X0 hx hby rfl d7_48 (pc' := 50) rfl ?_
  refine own_l2d X0 hx hby rfl d7_50 (pc' := 51) rfl ?_
  refine own_dcmp X0 hx hby rfl d7_51 (pc' := 52) rfl ?_
  by_cases hc1 : deq (FP.dmul x12 (FP.i2d (p5 * p6))) (FP.l2d ((((p3 * hh1) * hh2) * (p6.toInt64)) + (((p4 * gg1) * gg2) * (p5.toInt64))))
  · refine own_ifF X0 hx hby d7_52 (own_dl_ne_p hc1) (pc' := 55) rfl ?_
    refine own_iconst X0 hx hby (v := (1 : Int32)) (by decide) d7_55 (pc' := 56) rfl ?_
    refine own_goto X0 hx hby d7_56 (by decide) (pc' := 60) (by decide) ?_
    exact own_retZ X0 hx hby Bd.notSynchronized Bd.returns (Or.inr rfl) d7_60 (by decide) (by decide) eH0 ⟨(by rw [if_pos hc1]), N0, rfl⟩
  · refine own_ifT X0 hx hby d7_52 (own_dl_ne_n hc1) (by decide) (pc' := 59) (by decide) ?_
    refine own_iconst X0 hx hby (v := (0 : Int32)) (by decide) d7_59 (pc' := 60) rfl ?_
    exact own_retZ X0 hx hby Bd.notSynchronized Bd.returns (Or.inl rfl) d7_60 (by decide) (by decide) eH0 ⟨(by rw [if_neg hc1]), N0, rfl⟩
theorem ef720 (m : MethodId) (x0 : Addr) (x1 : Addr) (x2 : Addr) (x3 : Int64) (x4 : Int64) (x5 : Int32) (x6 : Int32) : entryFrame m #[(.ref x0), (.ref x1), (.ref x2), (.long x3), (.long x4), (.int x5), (.int x6), (.int (2 : Int32)), (.int (0 : Int32))] 13 = mkF m 0 #[.val (.ref x0), .val (.ref x1), .val (.ref x2), .val (.long x3), .second, .val (.long x4), .second, .val (.int x5), .val (.int x6), .val (.int (2 : Int32)), .val (.int (0 : Int32)), .unset, .unset] [] := by first | (simp [entryFrame, mkF, argsToLocals, Value.category]; done) | rfl
def Q720 (Z : State) (o0 : Addr) (o1 : Addr) (o2 : Addr) (p3 : Int64) (p4 : Int64) (p5 : Int32) (p6 : Int32) (t0 : Addr) (t1 : Addr) (t2 : Addr) (x00 : UInt64) (x01 : UInt64) (x02 : UInt64) (x10 : UInt64) (x11 : UInt64) (x12 : UInt64) (x20 : UInt64) (x21 : UInt64) (x22 : UInt64) (hh0 : Int64) (hh1 : Int64) (hh2 : Int64) (gg0 : Int64) (gg1 : Int64) (gg2 : Int64) (h0 : Heap) (n0 : Nat) (v : Option Value) (h : Heap) (L : List Loc) : Prop := v = some (.int (if deq (FP.dmul x20 (FP.i2d (p5 * p6))) (FP.l2d ((((p3 * hh2) * hh0) * (p6.toInt64)) + (((p4 * gg2) * gg0) * (p5.toInt64)))) then (1 : Int32) else (0 : Int32))) ∧ Fr n0 L ∧ h0 = h
set_option maxRecDepth 65536 in
set_option maxHeartbeats 40000000 in
theorem rm720 (l : Launch) (Z : State) (a0 : Array Value) (hw : ∀ d ∈ tables_1, d.before a0 Z = true) (ws : List Jvm.Cond) (o0 : Addr) (o1 : Addr) (o2 : Addr) (p3 : Int64) (p4 : Int64) (p5 : Int32) (p6 : Int32) (t0 : Addr) (t1 : Addr) (t2 : Addr) (x00 : UInt64) (x01 : UInt64) (x02 : UInt64) (x10 : UInt64) (x11 : UInt64) (x12 : UInt64) (x20 : UInt64) (x21 : UInt64) (x22 : UInt64) (hh0 : Int64) (hh1 : Int64) (hh2 : Int64) (gg0 : Int64) (gg1 : Int64) (gg2 : Int64) (h0 : Heap) (n0 : Nat) (Z0 : n0 ≤ h0.size) (V_o0 : Ary (ovA Z .double "[D") Z h0 o0 (.array .double) [(.ref t0), (.ref t1), (.ref t2)]) (V_t0 : Ary tr Z h0 t0 .double [(.double x00), (.double x01), (.double x02)]) (V_t1 : Ary tr Z h0 t1 .double [(.double x10), (.double x11), (.double x12)]) (V_t2 : Ary tr Z h0 t2 .double [(.double x20), (.double x21), (.double x22)]) (V_o1 : Ary tr Z h0 o1 .long [(.long hh0), (.long hh1), (.long hh2)]) (V_o2 : Ary tr Z h0 o2 .long [(.long gg0), (.long gg1), (.long gg2)]) (hn47_1 : (NoNaN64 (FP.dmul x20 (FP.i2d (p5 * p6))))) :
    MetFree l (⟨"com/example/volts_to_velocity/voltstovelocity/ScoreNoiseCovariancePinLaw", "ok", "([[D[J[JJJIIII)Z"⟩ : MethodName) (head1 (Jvm.Cond.code (⟨"com/example/volts_to_velocity/voltstovelocity/ScoreNoiseCovariancePinLaw", "ok", "([[D[J[JJJIIII)Z"⟩ : MethodName) method_3_code 13 (some .boolean) :: ws) ({ frames := 0, cells := 0, slots := 0, locals := 0 } : Room)) (fun a U => a = #[(.ref o0), (.ref o1), (.ref o2), (.long p3), (.long p4), (.int p5), (.int p6), (.int (2 : Int32)), (.int (0 : Int32))] ∧ Z.Warmed39 U.vm ∧ U.heap = h0) (fun _ _ _ _ _ => True) (fun _ U o U' => ∃ v L, o = .returned v ∧ Q720 Z o0 o1 o2 p3 p4 p5 p6 t0 t1 t2 x00 x01 x02 x10 x11 x12 x20 x21 x22 hh0 hh1 hh2 gg0 gg1 gg2 h0 n0 v U'.heap L ∧ FrameEnd U o U' L ({ frames := 0, cells := 0, slots := 0, locals := 0 } : Room).cells ({ frames := 0, cells := 0, slots := 0, locals := 0 } : Room).slots) := by
  refine MetFree.of_bodySF (plainFor_of_name pn_com_example_volts_to_velocity_voltstovelocity_ScoreNoiseCovariancePinLaw) hisR ?_
  intro p e s m args below meth c s₁ Bd hml0 hP hK
  obtain ⟨rfl, hZ, hh⟩ := hP
  have hx := Bd.exec
  have hby := Bd.bytes
  have hml : c.maxLocals = 13 := hml0
  have hown : s.vm.findClass "com/example/volts_to_velocity/voltstovelocity/ScoreNoiseCovariancePinLaw" = some m.cls := findClass_of_methodNamed Bd.named
  have hnm := (name_of_methodNamed Bd.named Bd.method).1
  have X0 : Stand p l e ({ frames := 0, cells := 0, slots := 0, locals := 0 } : Room) s m #[(.ref o0), (.ref o1), (.ref o2), (.long p3), (.long p4), (.int p5), (.int p6), (.int (2 : Int32)), (.int (0 : Int32))] below meth c s₁ [] 0 0 := Stand.of_body Bd
  have eH0 : s₁.heap = h0 := by rw [← hh, Bd.state]; rfl
  have N0 := Fr.nil n0
  show Gt p.tables e below (fun o U' => ∃ v L, o = .returned v ∧ Q720 Z o0 o1 o2 p3 p4 p5 p6 t0 t1 t2 x00 x01 x02 x10 x11 x12 x20 x21 x22 hh0 hh1 hh2 gg0 gg1 gg2 h0 n0 v U'.heap L ∧ FrameEnd s o U' L ({ frames := 0, cells := 0, slots := 0, locals := 0 } : Room).cells ({ frames := 0, cells := 0, slots := 0, locals := 0 } : Room).slots) _
  refine own_cast (ef720 m o0 o1 o2 p3 p4 p5 p6) ?_
  refine own_lloadN X0 hx hby rfl d7_0 (pc' := 1) rfl ?_
  refine own_aloadN X0 hx hby rfl rfl d7_1 (pc' := 2) rfl ?_
  refine own_iload X0 hx hby rfl d7_2 (pc' := 4) rfl ?_
  refine own_laload X0 hx hby hZ eH0 V_o1 (by decide) (v := (.long hh2)) rfl d7_4 (pc' := 5) rfl ?_
  refine own_lmul X0 hx hby rfl d7_5 (pc' := 6) rfl ?_
  refine own_aloadN X0 hx hby rfl rfl d7_6 (pc' := 7) rfl ?_
  refine own_iload X0 hx hby rfl d7_7 (pc' := 9) rfl ?_
  refine own_laload X0 hx hby hZ eH0 V_o1 (by decide) (v := (.long hh0)) rfl d7_9 (pc' := 10) rfl ?_
  refine own_lmul X0 hx hby rfl d7_10 (pc' := 11) rfl ?_
  refine own_iload X0 hx hby rfl d7_11 (pc' := 13) rfl ?_
  refine own_i2l X0 hx hby rfl d7_13 (pc' := 14) rfl ?_
  refine own_lmul X0 hx hby rfl d7_14 (pc' := 15) rfl ?_
  refine own_lload X0 hx hby rfl d7_15 (pc' := 17) rfl ?_
  refine own_aloadN X0 hx hby rfl rfl d7_17 (pc' := 18) rfl ?_
  refine own_iload X0 hx hby rfl d7_18 (pc' := 20) rfl ?_
  refine own_laload X0 hx hby hZ eH0 V_o2 (by decide) (v := (.long gg2)) rfl d7_20 (pc' := 21) rfl ?_
  refine own_lmul X0 hx hby rfl d7_21 (pc' := 22) rfl ?_
  refine own_aloadN X0 hx hby rfl rfl d7_22 (pc' := 23) rfl ?_
  refine own_iload X0 hx hby rfl d7_23 (pc' := 25) rfl ?_
  refine own_laload X0 hx hby hZ eH0 V_o2 (by decide) (v := (.long gg0)) rfl d7_25 (pc' := 26) rfl ?_
  refine own_lmul X0 hx hby rfl d7_26 (pc' := 27) rfl ?_
  refine own_iload X0 hx hby rfl d7_27 (pc' := 29) rfl ?_
  refine own_i2l X0 hx hby rfl d7_29 (pc' := 30) rfl ?_
  refine own_lmul X0 hx hby rfl d7_30 (pc' := 31) rfl ?_
  refine own_ladd X0 hx hby rfl d7_31 (pc' := 32) rfl ?_
  refine own_lstore X0 hx hby (L' := #[.val (.ref o0), .val (.ref o1), .val (.ref o2), .val (.long p3), .second, .val (.long p4), .second, .val (.int p5), .val (.int p6), .val (.int (2 : Int32)), .val (.int (0 : Int32)), .val (.long ((((p3 * hh2) * hh0) * (p6.toInt64)) + (((p4 * gg2) * gg0) * (p5.toInt64)))), .second]) rfl d7_32 (pc' := 34) rfl ?_
  refine own_aloadN X0 hx hby rfl rfl d7_34 (pc' := 35) rfl ?_
  refine own_iload X0 hx hby rfl d7_35 (pc' := 37) rfl ?_
  refine own_aaload X0 hx hby hZ eH0 V_o0 rfl (by decide) (v := (.ref t2)) rfl d7_37 (pc' := 38) rfl ?_
  refine own_iload X0 hx hby rfl d7_38 (pc' := 40) rfl ?_
  refine own_daload X0 hx hby hZ eH0 V_t2 (by decide) (v := (.double x20)) rfl d7_40 (pc' := 41) rfl ?_
  refine own_iload X0 hx hby rfl d7_41 (pc' := 43) rfl ?_
  refine own_iload X0 hx hby rfl d7_43 (pc' := 45) rfl ?_
  refine own_imul X0 hx hby rfl d7_45 (pc' := 46) rfl ?_
  refine own_i2d X0 hx hby rfl d7_46 (pc' := 47) rfl ?_
  refine own_dmul X0 hx hby hn47_1 rfl d7_47 (pc' := 48) rfl ?_
  refine own_lload X0 hx hby rfl d7_48 (pc' := 50) rfl ?_
  refine own_l2d X0 hx hby rfl d7_50 (pc' := 51) rfl ?_
  refine own_dcmp X0 hx hby rfl d7_51 (pc' := 52) rfl ?_
  by_cases hc1 : deq (FP.dmul x20 (FP.i2d (p5 * p6))) (FP.l2d ((((p3 * hh2) * hh0) * (p6.toInt64)) + (((p4 * gg2) * gg0) * (p5.toInt64))))
  · refine own_ifF X0 hx hby d7_52 (own_dl_ne_p hc1) (pc' := 55) rfl ?_
    refine own_iconst X0 hx hby (v := (1 : Int32)) (by decide) d7_55 (pc' := 56) rfl ?_
    refine own_goto X0 hx hby d7_56 (by decide) (pc' := 60) (by decide) ?_
    exact own_retZ X0 hx hby Bd.notSynchronized Bd.returns (Or.inr rfl) d7_60 (by decide) (by decide) eH0 ⟨(by rw [if_pos hc1]), N0, rfl⟩
  · refine own_ifT X0 hx hby d7_52 (own_dl_ne_n hc1) (by decide) (pc' := 59) (by decide) ?_
    refine own_iconst X0 hx hby (v := (0 : Int32)) (by decide) d7_59 (pc' := 60) rfl ?_
    exact own_retZ X0 hx hby Bd.notSynchronized Bd.returns (Or.inl rfl) d7_60 (by decide) (by decide) eH0 ⟨(by rw [if_neg hc1]), N0, rfl⟩
theorem ef721 (m : MethodId) (x0 : Addr) (x1 : Addr) (x2 : Addr) (x3 : Int64) (x4 : Int64) (x5 : Int32) (x6 : Int32) : entryFrame m #[(.ref x0), (.ref x1), (.ref x2), (.long x3), (.long x4), (.int x5), (.int x6), (.int (2 : Int32)), (.int (1 : Int32))] 13 = mkF m 0 #[.val (.ref x0), .val (.ref x1), .val (.ref x2), .val (.long x3), .second, .val (.long x4), .second, .val (.int x5), .val (.int x6), .val (.int (2 : Int32)), .val (.int (1 : Int32)), .unset, .unset] [] := by first | (simp [entryFrame, mkF, argsToLocals, Value.category]; done) | rfl
def Q721 (Z : State) (o0 : Addr) (o1 : Addr) (o2 : Addr) (p3 : Int64) (p4 : Int64) (p5 : Int32) (p6 : Int32) (t0 : Addr) (t1 : Addr) (t2 : Addr) (x00 : UInt64) (x01 : UInt64) (x02 : UInt64) (x10 : UInt64) (x11 : UInt64) (x12 : UInt64) (x20 : UInt64) (x21 : UInt64) (x22 : UInt64) (hh0 : Int64) (hh1 : Int64) (hh2 : Int64) (gg0 : Int64) (gg1 : Int64) (gg2 : Int64) (h0 : Heap) (n0 : Nat) (v : Option Value) (h : Heap) (L : List Loc) : Prop := v = some (.int (if deq (FP.dmul x21 (FP.i2d (p5 * p6))) (FP.l2d ((((p3 * hh2) * hh1) * (p6.toInt64)) + (((p4 * gg2) * gg1) * (p5.toInt64)))) then (1 : Int32) else (0 : Int32))) ∧ Fr n0 L ∧ h0 = h
set_option maxRecDepth 65536 in
set_option maxHeartbeats 40000000 in
theorem rm721 (l : Launch) (Z : State) (a0 : Array Value) (hw : ∀ d ∈ tables_1, d.before a0 Z = true) (ws : List Jvm.Cond) (o0 : Addr) (o1 : Addr) (o2 : Addr) (p3 : Int64) (p4 : Int64) (p5 : Int32) (p6 : Int32) (t0 : Addr) (t1 : Addr) (t2 : Addr) (x00 : UInt64) (x01 : UInt64) (x02 : UInt64) (x10 : UInt64) (x11 : UInt64) (x12 : UInt64) (x20 : UInt64) (x21 : UInt64) (x22 : UInt64) (hh0 : Int64) (hh1 : Int64) (hh2 : Int64) (gg0 : Int64) (gg1 : Int64) (gg2 : Int64) (h0 : Heap) (n0 : Nat) (Z0 : n0 ≤ h0.size) (V_o0 : Ary (ovA Z .double "[D") Z h0 o0 (.array .double) [(.ref t0), (.ref t1), (.ref t2)]) (V_t0 : Ary tr Z h0 t0 .double [(.double x00), (.double x01), (.double x02)]) (V_t1 : Ary tr Z h0 t1 .double [(.double x10), (.double x11), (.double x12)]) (V_t2 : Ary tr Z h0 t2 .double [(.double x20), (.double x21), (.double x22)]) (V_o1 : Ary tr Z h0 o1 .long [(.long hh0), (.long hh1), (.long hh2)]) (V_o2 : Ary tr Z h0 o2 .long [(.long gg0), (.long gg1), (.long gg2)]) (hn47_1 : (NoNaN64 (FP.dmul x21 (FP.i2d (p5 * p6))))) :
    MetFree l (⟨"com/example/volts_to_velocity/voltstovelocity/ScoreNoiseCovariancePinLaw", "ok", "([[D[J[JJJIIII)Z"⟩ : MethodName) (head1 (Jvm.Cond.code (⟨"com/example/volts_to_velocity/voltstovelocity/ScoreNoiseCovariancePinLaw", "ok", "([[D[J[JJJIIII)Z"⟩ : MethodName) method_3_code 13 (some .boolean) :: ws) ({ frames := 0, cells := 0, slots := 0, locals := 0 } : Room)) (fun a U => a = #[(.ref o0), (.ref o1), (.ref o2), (.long p3), (.long p4), (.int p5), (.int p6), (.int (2 : Int32)), (.int (1 : Int32))] ∧ Z.Warmed39 U.vm ∧ U.heap = h0) (fun _ _ _ _ _ => True) (fun _ U o U' => ∃ v L, o = .returned v ∧ Q721 Z o0 o1 o2 p3 p4 p5 p6 t0 t1 t2 x00 x01 x02 x10 x11 x12 x20 x21 x22 hh0 hh1 hh2 gg0 gg1 gg2 h0 n0 v U'.heap L ∧ FrameEnd U o U' L ({ frames := 0, cells := 0, slots := 0, locals := 0 } : Room).cells ({ frames := 0, cells := 0, slots := 0, locals := 0 } : Room).slots) := by
  refine MetFree.of_bodySF (plainFor_of_name pn_com_example_volts_to_velocity_voltstovelocity_ScoreNoiseCovariancePinLaw) hisR ?_
  intro p e s m args below meth c s₁ Bd hml0 hP hK
  obtain ⟨rfl, hZ, hh⟩ := hP
  have hx := Bd.exec
  have hby := Bd.bytes
  have hml : c.maxLocals = 13 := hml0
  have hown : s.vm.findClass "com/example/volts_to_velocity/voltstovelocity/ScoreNoiseCovariancePinLaw" = some m.cls := findClass_of_methodNamed Bd.named
  have hnm := (name_of_methodNamed Bd.named Bd.method).1
  have X0 : Stand p l e ({ frames := 0, cells := 0, slots := 0, locals := 0 } : Room) s m #[(.ref o0), (.ref o1), (.ref o2), (.long p3), (.long p4), (.int p5), (.int p6), (.int (2 : Int32)), (.int (1 : Int32))] below meth c s₁ [] 0 0 := Stand.of_body Bd
  have eH0 : s₁.heap = h0 := by rw [← hh, Bd.state]; rfl
  have N0 := Fr.nil n0
  show Gt p.tables e below (fun o U' => ∃ v L, o = .returned v ∧ Q721 Z o0 o1 o2 p3 p4 p5 p6 t0 t1 t2 x00 x01 x02 x10 x11 x12 x20 x21 x22 hh0 hh1 hh2 gg0 gg1 gg2 h0 n0 v U'.heap L ∧ FrameEnd s o U' L ({ frames := 0, cells := 0, slots := 0, locals := 0 } : Room).cells ({ frames := 0, cells := 0, slots := 0, locals := 0 } : Room).slots) _
  refine own_cast (ef721 m o0 o1 o2 p3 p4 p5 p6) ?_
  refine own_lloadN X0 hx hby rfl d7_0 (pc' := 1) rfl ?_
  refine own_aloadN X0 hx hby rfl rfl d7_1 (pc' := 2) rfl ?_
  refine own_iload X0 hx hby rfl d7_2 (pc' := 4) rfl ?_
  refine own_laload X0 hx hby hZ eH0 V_o1 (by decide) (v := (.long hh2)) rfl d7_4 (pc' := 5) rfl ?_
  refine own_lmul X0 hx hby rfl d7_5 (pc' := 6) rfl ?_
  refine own_aloadN X0 hx hby rfl rfl d7_6 (pc' := 7) rfl ?_
  refine own_iload X0 hx hby rfl d7_7 (pc' := 9) rfl ?_
  refine own_laload X0 hx hby hZ eH0 V_o1 (by decide) (v := (.long hh1)) rfl d7_9 (pc' := 10) rfl ?_
  refine own_lmul X0 hx hby rfl d7_10 (pc' := 11) rfl ?_
  refine own_iload X0 hx hby rfl d7_11 (pc' := 13) rfl ?_
  refine own_i2l X0 hx hby rfl d7_13 (pc' := 14) rfl ?_
  refine own_lmul X0 hx hby rfl d7_14 (pc' := 15) rfl ?_
  refine own_lload X0 hx hby rfl d7_15 (pc' := 17) rfl ?_
  refine own_aloadN X0 hx hby rfl rfl d7_17 (pc' := 18) rfl ?_
  refine own_iload X0 hx hby rfl d7_18 (pc' := 20) rfl ?_
  refine own_laload X0 hx hby hZ eH0 V_o2 (by decide) (v := (.long gg2)) rfl d7_20 (pc' := 21) rfl ?_
  refine own_lmul X0 hx hby rfl d7_21 (pc' := 22) rfl ?_
  refine own_aloadN X0 hx hby rfl rfl d7_22 (pc' := 23) rfl ?_
  refine own_iload X0 hx hby rfl d7_23 (pc' := 25) rfl ?_
  refine own_laload X0 hx hby hZ eH0 V_o2 (by decide) (v := (.long gg1)) rfl d7_25 (pc' := 26) rfl ?_
  refine own_lmul X0 hx hby rfl d7_26 (pc' := 27) rfl ?_
  refine own_iload X0 hx hby rfl d7_27 (pc' := 29) rfl ?_
  refine own_i2l X0 hx hby rfl d7_29 (pc' := 30) rfl ?_
  refine own_lmul X0 hx hby rfl d7_30 (pc' := 31) rfl ?_
  refine own_ladd X0 hx hby rfl d7_31 (pc' := 32) rfl ?_
  refine own_lstore X0 hx hby (L' := #[.val (.ref o0), .val (.ref o1), .val (.ref o2), .val (.long p3), .second, .val (.long p4), .second, .val (.int p5), .val (.int p6), .val (.int (2 : Int32)), .val (.int (1 : Int32)), .val (.long ((((p3 * hh2) * hh1) * (p6.toInt64)) + (((p4 * gg2) * gg1) * (p5.toInt64)))), .second]) rfl d7_32 (pc' := 34) rfl ?_
  refine own_aloadN X0 hx hby rfl rfl d7_34 (pc' := 35) rfl ?_
  refine own_iload X0 hx hby rfl d7_35 (pc' := 37) rfl ?_
  refine own_aaload X0 hx hby hZ eH0 V_o0 rfl (by decide) (v := (.ref t2)) rfl d7_37 (pc' := 38) rfl ?_
  refine own_iload X0 hx hby rfl d7_38 (pc' := 40) rfl ?_
  refine own_daload X0 hx hby hZ eH0 V_t2 (by decide) (v := (.double x21)) rfl d7_40 (pc' := 41) rfl ?_
  refine own_iload X0 hx hby rfl d7_41 (pc' := 43) rfl ?_
  refine own_iload X0 hx hby rfl d7_43 (pc' := 45) rfl ?_
  refine own_imul X0 hx hby rfl d7_45 (pc' := 46) rfl ?_
  refine own_i2d X0 hx hby rfl d7_46 (pc' := 47) rfl ?_
  refine own_dmul X0 hx hby hn47_1 rfl d7_47 (pc' := 48) rfl ?_
  refine own_lload X0 hx hby rfl d7_48 (pc' := 50) rfl ?_
  refine own_l2d X0 hx hby rfl d7_50 (pc' := 51) rfl ?_
  refine own_dcmp X0 hx hby rfl d7_51 (pc' := 52) rfl ?_
  by_cases hc1 : deq (FP.dmul x21 (FP.i2d (p5 * p6))) (FP.l2d ((((p3 * hh2) * hh1) * (p6.toInt64)) + (((p4 * gg2) * gg1) * (p5.toInt64))))
  · refine own_ifF X0 hx hby d7_52 (own_dl_ne_p hc1) (pc' := 55) rfl ?_
    refine own_iconst X0 hx hby (v := (1 : Int32)) (by decide) d7_55 (pc' := 56) rfl ?_
    refine own_goto X0 hx hby d7_56 (by decide) (pc' := 60) (by decide) ?_
    exact own_retZ X0 hx hby Bd.notSynchronized Bd.returns (Or.inr rfl) d7_60 (by decide) (by decide) eH0 ⟨(by rw [if_pos hc1]), N0, rfl⟩
  · refine own_ifT X0 hx hby d7_52 (own_dl_ne_n hc1) (by decide) (pc' := 59) (by decide) ?_
    refine own_iconst X0 hx hby (v := (0 : Int32)) (by decide) d7_59 (pc' := 60) rfl ?_
    exact own_retZ X0 hx hby Bd.notSynchronized Bd.returns (Or.inl rfl) d7_60 (by decide) (by decide) eH0 ⟨(by rw [if_neg hc1]), N0, rfl⟩
theorem ef722 (m : MethodId) (x0 : Addr) (x1 : Addr) (x2 : Addr) (x3 : Int64) (x4 : Int64) (x5 : Int32) (x6 : Int32) : entryFrame m #[(.ref x0), (.ref x1), (.ref x2), (.long x3), (.long x4), (.int x5), (.int x6), (.int (2 : Int32)), (.int (2 : Int32))] 13 = mkF m 0 #[.val (.ref x0), .val (.ref x1), .val (.ref x2), .val (.long x3), .second, .val (.long x4), .second, .val (.int x5), .val (.int x6), .val (.int (2 : Int32)), .val (.int (2 : Int32)), .unset, .unset] [] := by first | (simp [entryFrame, mkF, argsToLocals, Value.category]; done) | rfl
def Q722 (Z : State) (o0 : Addr) (o1 : Addr) (o2 : Addr) (p3 : Int64) (p4 : Int64) (p5 : Int32) (p6 : Int32) (t0 : Addr) (t1 : Addr) (t2 : Addr) (x00 : UInt64) (x01 : UInt64) (x02 : UInt64) (x10 : UInt64) (x11 : UInt64) (x12 : UInt64) (x20 : UInt64) (x21 : UInt64) (x22 : UInt64) (hh0 : Int64) (hh1 : Int64) (hh2 : Int64) (gg0 : Int64) (gg1 : Int64) (gg2 : Int64) (h0 : Heap) (n0 : Nat) (v : Option Value) (h : Heap) (L : List Loc) : Prop := v = some (.int (if deq (FP.dmul x22 (FP.i2d (p5 * p6))) (FP.l2d ((((p3 * hh2) * hh2) * (p6.toInt64)) + (((p4 * gg2) * gg2) * (p5.toInt64)))) then (1 : Int32) else (0 : Int32))) ∧ Fr n0 L ∧ h0 = h
set_option maxRecDepth 65536 in
set_option maxHeartbeats 40000000 in
theorem rm722 (l : Launch) (Z : State) (a0 : Array Value) (hw : ∀ d ∈ tables_1, d.before a0 Z = true) (ws : List Jvm.Cond) (o0 : Addr) (o1 : Addr) (o2 : Addr) (p3 : Int64) (p4 : Int64) (p5 : Int32) (p6 : Int32) (t0 : Addr) (t1 : Addr) (t2 : Addr) (x00 : UInt64) (x01 : UInt64) (x02 : UInt64) (x10 : UInt64) (x11 : UInt64) (x12 : UInt64) (x20 : UInt64) (x21 : UInt64) (x22 : UInt64) (hh0 : Int64) (hh1 : Int64) (hh2 : Int64) (gg0 : Int64) (gg1 : Int64) (gg2 : Int64) (h0 : Heap) (n0 : Nat) (Z0 : n0 ≤ h0.size) (V_o0 : Ary (ovA Z .double "[D") Z h0 o0 (.array .double) [(.ref t0), (.ref t1), (.ref t2)]) (V_t0 : Ary tr Z h0 t0 .double [(.double x00), (.double x01), (.double x02)]) (V_t1 : Ary tr Z h0 t1 .double [(.double x10), (.double x11), (.double x12)]) (V_t2 : Ary tr Z h0 t2 .double [(.double x20), (.double x21), (.double x22)]) (V_o1 : Ary tr Z h0 o1 .long [(.long hh0), (.long hh1), (.long hh2)]) (V_o2 : Ary tr Z h0 o2 .long [(.long gg0), (.long gg1), (.long gg2)]) (hn47_1 : (NoNaN64 (FP.dmul x22 (FP.i2d (p5 * p6))))) :
    MetFree l (⟨"com/example/volts_to_velocity/voltstovelocity/ScoreNoiseCovariancePinLaw", "ok", "([[D[J[JJJIIII)Z"⟩ : MethodName) (head1 (Jvm.Cond.code (⟨"com/example/volts_to_velocity/voltstovelocity/ScoreNoiseCovariancePinLaw", "ok", "([[D[J[JJJIIII)Z"⟩ : MethodName) method_3_code 13 (some .boolean) :: ws) ({ frames := 0, cells := 0, slots := 0, locals := 0 } : Room)) (fun a U => a = #[(.ref o0), (.ref o1), (.ref o2), (.long p3), (.long p4), (.int p5), (.int p6), (.int (2 : Int32)), (.int (2 : Int32))] ∧ Z.Warmed39 U.vm ∧ U.heap = h0) (fun _ _ _ _ _ => True) (fun _ U o U' => ∃ v L, o = .returned v ∧ Q722 Z o0 o1 o2 p3 p4 p5 p6 t0 t1 t2 x00 x01 x02 x10 x11 x12 x20 x21 x22 hh0 hh1 hh2 gg0 gg1 gg2 h0 n0 v U'.heap L ∧ FrameEnd U o U' L ({ frames := 0, cells := 0, slots := 0, locals := 0 } : Room).cells ({ frames := 0, cells := 0, slots := 0, locals := 0 } : Room).slots) := by
  refine MetFree.of_bodySF (plainFor_of_name pn_com_example_volts_to_velocity_voltstovelocity_ScoreNoiseCovariancePinLaw) hisR ?_
  intro p e s m args below meth c s₁ Bd hml0 hP hK
  obtain ⟨rfl, hZ, hh⟩ := hP
  have hx := Bd.exec
  have hby := Bd.bytes
  have hml : c.maxLocals = 13 := hml0
  have hown : s.vm.findClass "com/example/volts_to_velocity/voltstovelocity/ScoreNoiseCovariancePinLaw" = some m.cls := findClass_of_methodNamed Bd.named
  have hnm := (name_of_methodNamed Bd.named Bd.method).1
  have X0 : Stand p l e ({ frames := 0, cells := 0, slots := 0, locals := 0 } : Room) s m #[(.ref o0), (.ref o1), (.ref o2), (.long p3), (.long p4), (.int p5), (.int p6), (.int (2 : Int32)), (.int (2 : Int32))] below meth c s₁ [] 0 0 := Stand.of_body Bd
  have eH0 : s₁.heap = h0 := by rw [← hh, Bd.state]; rfl
  have N0 := Fr.nil n0
  show Gt p.tables e below (fun o U' => ∃ v L, o = .returned v ∧ Q722 Z o0 o1 o2 p3 p4 p5 p6 t0 t1 t2 x00 x01 x02 x10 x11 x12 x20 x21 x22 hh0 hh1 hh2 gg0 gg1 gg2 h0 n0 v U'.heap L ∧ FrameEnd s o U' L ({ frames := 0, cells := 0, slots := 0, locals := 0 } : Room).cells ({ frames := 0, cells := 0, slots := 0, locals := 0 } : Room).slots) _
  refine own_cast (ef722 m o0 o1 o2 p3 p4 p5 p6) ?_
  refine own_lloadN X0 hx hby rfl d7_0 (pc' := 1) rfl ?_
  refine own_aloadN X0 hx hby rfl rfl d7_1 (pc' := 2) rfl ?_
  refine own_iload X0 hx hby rfl d7_2 (pc' := 4) rfl ?_
  refine own_laload X0 hx hby hZ eH0 V_o1 (by decide) (v := (.long hh2)) rfl d7_4 (pc' := 5) rfl ?_
  refine own_lmul X0 hx hby rfl d7_5 (pc' := 6) rfl ?_
  refine own_aloadN X0 hx hby rfl rfl d7_6 (pc' := 7) rfl ?_
  refine own_iload X0 hx hby rfl d7_7 (pc' := 9) rfl ?_
  refine own_laload X0 hx hby hZ eH0 V_o1 (by decide) (v := (.long hh2)) rfl d7_9 (pc' := 10) rfl ?_
  refine own_lmul X0 hx hby rfl d7_10 (pc' := 11) rfl ?_
  refine own_iload X0 hx hby rfl d7_11 (pc' := 13) rfl ?_
  refine own_i2l X0 hx hby rfl d7_13 (pc' := 14) rfl ?_
  refine own_lmul X0 hx hby rfl d7_14 (pc' := 15) rfl ?_
  refine own_lload X0 hx hby rfl d7_15 (pc' := 17) rfl ?_
  refine own_aloadN X0 hx hby rfl rfl d7_17 (pc' := 18) rfl ?_
  refine own_iload X0 hx hby rfl d7_18 (pc' := 20) rfl ?_
  refine own_laload X0 hx hby hZ eH0 V_o2 (by decide) (v := (.long gg2)) rfl d7_20 (pc' := 21) rfl ?_
  refine own_lmul X0 hx hby rfl d7_21 (pc' := 22) rfl ?_
  refine own_aloadN X0 hx hby rfl rfl d7_22 (pc' := 23) rfl ?_
  refine own_iload X0 hx hby rfl d7_23 (pc' := 25) rfl ?_
  refine own_laload X0 hx hby hZ eH0 V_o2 (by decide) (v := (.long gg2)) rfl d7_25 (pc' := 26) rfl ?_
  refine own_lmul X0 hx hby rfl d7_26 (pc' := 27) rfl ?_
  refine own_iload X0 hx hby rfl d7_27 (pc' := 29) rfl ?_
  refine own_i2l X0 hx hby rfl d7_29 (pc' := 30) rfl ?_
  refine own_lmul X0 hx hby rfl d7_30 (pc' := 31) rfl ?_
  refine own_ladd X0 hx hby rfl d7_31 (pc' := 32) rfl ?_
  refine own_lstore X0 hx hby (L' := #[.val (.ref o0), .val (.ref o1), .val (.ref o2), .val (.long p3), .second, .val (.long p4), .second, .val (.int p5), .val (.int p6), .val (.int (2 : Int32)), .val (.int (2 : Int32)), .val (.long ((((p3 * hh2) * hh2) * (p6.toInt64)) + (((p4 * gg2) * gg2) * (p5.toInt64)))), .second]) rfl d7_32 (pc' := 34) rfl ?_
  refine own_aloadN X0 hx hby rfl rfl d7_34 (pc' := 35) rfl ?_
  refine own_iload X0 hx hby rfl d7_35 (pc' := 37) rfl ?_
  refine own_aaload X0 hx hby hZ eH0 V_o0 rfl (by decide) (v := (.ref t2)) rfl d7_37 (pc' := 38) rfl ?_
  refine own_iload X0 hx hby rfl d7_38 (pc' := 40) rfl ?_
  refine own_daload X0 hx hby hZ eH0 V_t2 (by decide) (v := (.double x22)) rfl d7_40 (pc' := 41) rfl ?_
  refine own_iload X0 hx hby rfl d7_41 (pc' := 43) rfl ?_
  refine own_iload X0 hx hby rfl d7_43 (pc' := 45) rfl ?_
  refine own_imul X0 hx hby rfl d7_45 (pc' := 46) rfl ?_
  refine own_i2d X0 hx hby rfl d7_46 (pc' := 47) rfl ?_
  refine own_dmul X0 hx hby hn47_1 rfl d7_47 (pc' := 48) rfl ?_
  refine own_lload X0 hx hby rfl d7_48 (pc' := 50) rfl ?_
  refine own_l2d X0 hx hby rfl d7_50 (pc' := 51) rfl ?_
  refine own_dcmp X0 hx hby rfl d7_51 (pc' := 52) rfl ?_
  by_cases hc1 : deq (FP.dmul x22 (FP.i2d (p5 * p6))) (FP.l2d ((((p3 * hh2) * hh2) * (p6.toInt64)) + (((p4 * gg2) * gg2) * (p5.toInt64))))
  · refine own_ifF X0 hx hby d7_52 (own_dl_ne_p hc1) (pc' := 55) rfl ?_
    refine own_iconst X0 hx hby (v := (1 : Int32)) (by decide) d7_55 (pc' := 56) rfl ?_
    refine own_goto X0 hx hby d7_56 (by decide) (pc' := 60) (by decide) ?_
    exact own_retZ X0 hx hby Bd.notSynchronized Bd.returns (Or.inr rfl) d7_60 (by decide) (by decide) eH0 ⟨(by rw [if_pos hc1]), N0, rfl⟩
  · refine own_ifT X0 hx hby d7_52 (own_dl_ne_n hc1) (by decide) (pc' := 59) (by decide) ?_
    refine own_iconst X0 hx hby (v := (0 : Int32)) (by decide) d7_59 (pc' := 60) rfl ?_
    exact own_retZ X0 hx hby Bd.notSynchronized Bd.returns (Or.inl rfl) d7_60 (by decide) (by decide) eH0 ⟨(by rw [if_neg hc1]), N0, rfl⟩
theorem ef0 (m : MethodId) (x0 : Int32) (x1 : Int32) (x2 : Int32) (x3 : Int32) (x4 : Int32) : entryFrame m #[(.int x0), (.int x1), (.int x2), (.int x3), (.int x4)] maxLocals = mkF m 0 #[.val (.int x0), .val (.int x1), .val (.int x2), .val (.int x3), .val (.int x4), .unset, .unset, .unset, .unset, .unset, .unset, .unset, .unset, .unset, .unset, .unset, .unset, .unset, .unset, .unset, .unset, .unset, .unset, .unset, .unset, .unset, .unset, .unset, .unset] [] := by first | (simp [entryFrame, mkF, argsToLocals, Value.category, maxLocals]; done) | rfl
def Q0 (Z : State) (p0 : Int32) (p1 : Int32) (p2 : Int32) (p3 : Int32) (p4 : Int32) (h0 : Heap) (n0 : Nat) (v : Option Value) (h : Heap) (L : List Loc) : Prop := v = some (.int 1) ∧ Fr n0 L
set_option maxRecDepth 65536 in
set_option maxHeartbeats 40000000 in
theorem rm0 (l : Launch) (Z : State) (a0 : Array Value) (hw : ∀ d ∈ tables_1, d.before a0 Z = true) (ws : List Jvm.Cond) (p0 : Int32) (p1 : Int32) (p2 : Int32) (p3 : Int32) (p4 : Int32) (h0 : Heap) (n0 : Nat) (Z0 : n0 ≤ h0.size) :
    MetFree l x (head1 (Jvm.Cond.code x code maxLocals ret :: ws) room_1) (fun a U => a = #[(.int p0), (.int p1), (.int p2), (.int p3), (.int p4)] ∧ Z.Warmed39 U.vm ∧ U.heap = h0) (fun _ _ _ _ _ => True) (fun _ U o U' => ∃ v L, o = .returned v ∧ Q0 Z p0 p1 p2 p3 p4 h0 n0 v U'.heap L ∧ FrameEnd U o U' L 48 192) := by
  refine MetFree.of_bodySF (plainFor_of_name pn_com_example_volts_to_velocity_voltstovelocity_ScoreNoiseCovariancePinLaw) hisR ?_
  intro p e s m args below meth c s₁ Bd hml0 hP hK
  obtain ⟨rfl, hZ, hh⟩ := hP
  have hx := Bd.exec
  have hby := Bd.bytes
  have hml : c.maxLocals = 29 := hml0
  have hown : s.vm.findClass "com/example/volts_to_velocity/voltstovelocity/ScoreNoiseCovariancePinLaw" = some m.cls := findClass_of_methodNamed Bd.named
  have hnm := (name_of_methodNamed Bd.named Bd.method).1
  have X0 : Stand p l e room_1 s m #[(.int p0), (.int p1), (.int p2), (.int p3), (.int p4)] below meth c s₁ [] 0 0 := Stand.of_body Bd
  have eH0 : s₁.heap = h0 := by rw [← hh, Bd.state]; rfl
  have N0 := Fr.nil n0
  show Gt p.tables e below (fun o U' => ∃ v L, o = .returned v ∧ Q0 Z p0 p1 p2 p3 p4 h0 n0 v U'.heap L ∧ FrameEnd s o U' L 48 192) _
  refine own_cast (ef0 m p0 p1 p2 p3 p4) ?_
  refine own_iloadN X0 hx hby rfl at_0 (pc' := 1) rfl ?_
  refine own_i2b X0 hx hby rfl at_1 (pc' := 2) rfl ?_
  refine own_i2l X0 hx hby rfl at_2 (pc' := 3) rfl ?_
  generalize q_n1 : ((p0.toInt8.toInt32).toInt64) = n1
  refine own_lstore X0 hx hby (L' := #[.val (.int p0), .val (.int p1), .val (.int p2), .val (.int p3), .val (.int p4), .val (.long n1), .second, .unset, .unset, .unset, .unset, .unset, .unset, .unset, .unset, .unset, .unset, .unset, .unset, .unset, .unset, .unset, .unset, .unset, .unset, .unset, .unset, .unset, .unset]) rfl at_3 (pc' := 5) rfl ?_
  refine own_iloadN X0 hx hby rfl at_5 (pc' := 6) rfl ?_
  refine own_bipush X0 hx hby (v := (8 : Int32)) (by decide) at_6 (pc' := 8) rfl ?_
  refine own_ishr X0 hx hby rfl at_8 (pc' := 9) rfl ?_
  refine own_i2b X0 hx hby rfl at_9 (pc' := 10) rfl ?_
  refine own_i2l X0 hx hby rfl at_10 (pc' := 11) rfl ?_
  generalize q_n2 : (((p0 >>> ((8 : Int32) &&& 31)).toInt8.toInt32).toInt64) = n2
  refine own_lstore X0 hx hby (L' := #[.val (.int p0), .val (.int p1), .val (.int p2), .val (.int p3), .val (.int p4), .val (.long n1), .second, .val (.long n2), .second, .unset, .unset, .unset, .unset, .unset, .unset, .unset, .unset, .unset, .unset, .unset, .unset, .unset, .unset, .unset, .unset, .unset, .unset, .unset, .unset]) rfl at_11 (pc' := 13) rfl ?_
  refine own_iloadN X0 hx hby rfl at_13 (pc' := 14) rfl ?_
  refine own_bipush X0 hx hby (v := (16 : Int32)) (by decide) at_14 (pc' := 16) rfl ?_
  refine own_ishr X0 hx hby rfl at_16 (pc' := 17) rfl ?_
  refine own_i2b X0 hx hby rfl at_17 (pc' := 18) rfl ?_
  refine own_i2l X0 hx hby rfl at_18 (pc' := 19) rfl ?_
  generalize q_n3 : (((p0 >>> ((16 : Int32) &&& 31)).toInt8.toInt32).toInt64) = n3
  refine own_lstore X0 hx hby (L' := #[.val (.int p0), .val (.int p1), .val (.int p2), .val (.int p3), .val (.int p4), .val (.long n1), .second, .val (.long n2), .second, .val (.long n3), .second, .unset, .unset, .unset, .unset, .unset, .unset, .unset, .unset, .unset, .unset, .unset, .unset, .unset, .unset, .unset, .unset, .unset, .unset]) rfl at_19 (pc' := 21) rfl ?_
  refine own_iloadN X0 hx hby rfl at_21 (pc' := 22) rfl ?_
  refine own_i2b X0 hx hby rfl at_22 (pc' := 23) rfl ?_
  refine own_i2l X0 hx hby rfl at_23 (pc' := 24) rfl ?_
  generalize q_n4 : ((p1.toInt8.toInt32).toInt64) = n4
  refine own_lstore X0 hx hby (L' := #[.val (.int p0), .val (.int p1), .val (.int p2), .val (.int p3), .val (.int p4), .val (.long n1), .second, .val (.long n2), .second, .val (.long n3), .second, .val (.long n4), .second, .unset, .unset, .unset, .unset, .unset, .unset, .unset, .unset, .unset, .unset, .unset, .unset, .unset, .unset, .unset, .unset]) rfl at_24 (pc' := 26) rfl ?_
  refine own_iloadN X0 hx hby rfl at_26 (pc' := 27) rfl ?_
  refine own_bipush X0 hx hby (v := (8 : Int32)) (by decide) at_27 (pc' := 29) rfl ?_
  refine own_ishr X0 hx hby rfl at_29 (pc' := 30) rfl ?_
  refine own_i2b X0 hx hby rfl at_30 (pc' := 31) rfl ?_
  refine own_i2l X0 hx hby rfl at_31 (pc' := 32) rfl ?_
  generalize q_n5 : (((p1 >>> ((8 : Int32) &&& 31)).toInt8.toInt32).toInt64) = n5
  refine own_lstore X0 hx hby (L' := #[.val (.int p0), .val (.int p1), .val (.int p2), .val (.int p3), .val (.int p4), .val (.long n1), .second, .val (.long n2), .second, .val (.long n3), .second, .val (.long n4), .second, .val (.long n5), .second, .unset, .unset, .unset, .unset, .unset, .unset, .unset, .unset, .unset, .unset, .unset, .unset, .unset, .unset]) rfl at_32 (pc' := 34) rfl ?_
  refine own_iloadN X0 hx hby rfl at_34 (pc' := 35) rfl ?_
  refine own_bipush X0 hx hby (v := (16 : Int32)) (by decide) at_35 (pc' := 37) rfl ?_
  refine own_ishr X0 hx hby rfl at_37 (pc' := 38) rfl ?_
  refine own_i2b X0 hx hby rfl at_38 (pc' := 39) rfl ?_
  refine own_i2l X0 hx hby rfl at_39 (pc' := 40) rfl ?_
  generalize q_n6 : (((p1 >>> ((16 : Int32) &&& 31)).toInt8.toInt32).toInt64) = n6
  refine own_lstore X0 hx hby (L' := #[.val (.int p0), .val (.int p1), .val (.int p2), .val (.int p3), .val (.int p4), .val (.long n1), .second, .val (.long n2), .second, .val (.long n3), .second, .val (.long n4), .second, .val (.long n5), .second, .val (.long n6), .second, .unset, .unset, .unset, .unset, .unset, .unset, .unset, .unset, .unset, .unset, .unset, .unset]) rfl at_40 (pc' := 42) rfl ?_
  refine own_iloadN X0 hx hby rfl at_42 (pc' := 43) rfl ?_
  refine own_i2s X0 hx hby rfl at_43 (pc' := 44) rfl ?_
  refine own_i2l X0 hx hby rfl at_44 (pc' := 45) rfl ?_
  generalize q_n7 : ((p2.toInt16.toInt32).toInt64) = n7
  refine own_lstore X0 hx hby (L' := #[.val (.int p0), .val (.int p1), .val (.int p2), .val (.int p3), .val (.int p4), .val (.long n1), .second, .val (.long n2), .second, .val (.long n3), .second, .val (.long n4), .second, .val (.long n5), .second, .val (.long n6), .second, .val (.long n7), .second, .unset, .unset, .unset, .unset, .unset, .unset, .unset, .unset, .unset, .unset]) rfl at_45 (pc' := 47) rfl ?_
  refine own_iloadN X0 hx hby rfl at_47 (pc' := 48) rfl ?_
  refine own_i2s X0 hx hby rfl at_48 (pc' := 49) rfl ?_
  refine own_i2l X0 hx hby rfl at_49 (pc' := 50) rfl ?_
  generalize q_n8 : ((p3.toInt16.toInt32).toInt64) = n8
  refine own_lstore X0 hx hby (L' := #[.val (.int p0), .val (.int p1), .val (.int p2), .val (.int p3), .val (.int p4), .val (.long n1), .second, .val (.long n2), .second, .val (.long n3), .second, .val (.long n4), .second, .val (.long n5), .second, .val (.long n6), .second, .val (.long n7), .second, .val (.long n8), .second, .unset, .unset, .unset, .unset, .unset, .unset, .unset, .unset]) rfl at_50 (pc' := 52) rfl ?_
  refine own_iconst X0 hx hby (v := (1 : Int32)) (by decide) at_52 (pc' := 53) rfl ?_
  refine own_iload X0 hx hby rfl at_53 (pc' := 55) rfl ?_
  refine own_iconst X0 hx hby (v := (3 : Int32)) (by decide) at_55 (pc' := 56) rfl ?_
  refine own_iand X0 hx hby rfl at_56 (pc' := 57) rfl ?_
  refine own_ishl X0 hx hby rfl at_57 (pc' := 58) rfl ?_
  generalize q_n9 : ((1 : Int32) <<< ((p4 &&& (3 : Int32)) &&& 31)) = n9
  refine own_istore X0 hx hby (L' := #[.val (.int p0), .val (.int p1), .val (.int p2), .val (.int p3), .val (.int p4), .val (.long n1), .second, .val (.long n2), .second, .val (.long n3), .second, .val (.long n4), .second, .val (.long n5), .second, .val (.long n6), .second, .val (.long n7), .second, .val (.long n8), .second, .val (.int n9), .unset, .unset, .unset, .unset, .unset, .unset, .unset]) rfl at_58 (pc' := 60) rfl ?_
  refine own_iconst X0 hx hby (v := (1 : Int32)) (by decide) at_60 (pc' := 61) rfl ?_
  refine own_iload X0 hx hby rfl at_61 (pc' := 63) rfl ?_
  refine own_iconst X0 hx hby (v := (2 : Int32)) (by decide) at_63 (pc' := 64) rfl ?_
  refine own_iushr X0 hx hby rfl at_64 (pc' := 65) rfl ?_
  refine own_iconst X0 hx hby (v := (3 : Int32)) (by decide) at_65 (pc' := 66) rfl ?_
  refine own_iand X0 hx hby rfl at_66 (pc' := 67) rfl ?_
  refine own_ishl X0 hx hby rfl at_67 (pc' := 68) rfl ?_
  generalize q_n10 : ((1 : Int32) <<< ((((p4.toUInt32 >>> ((2 : Int32) &&& 31).toUInt32).toInt32) &&& (3 : Int32)) &&& 31)) = n10
  refine own_istore X0 hx hby (L' := #[.val (.int p0), .val (.int p1), .val (.int p2), .val (.int p3), .val (.int p4), .val (.long n1), .second, .val (.long n2), .second, .val (.long n3), .second, .val (.long n4), .second, .val (.long n5), .second, .val (.long n6), .second, .val (.long n7), .second, .val (.long n8), .second, .val (.int n9), .val (.int n10), .unset, .unset, .unset, .unset, .unset, .unset]) rfl at_68 (pc' := 70) rfl ?_
  obtain ⟨j, hj, er⟩ := own_scale p4
  rw [q_n9] at er
  obtain ⟨i, hi, es⟩ := own_scale (p4.toUInt32 >>> ((2 : Int32) &&& 31).toUInt32).toInt32
  rw [q_n10] at es
  refine own_iconst X0 hx hby (v := (3 : Int32)) (by decide) at_70 (pc' := 71) rfl ?_
  refine own_newP X0 hx hby hZ (hw _ (List.mem_of_getElem? (i := 0) rfl)) eH0 at_71 (pc' := 73) rfl (by decide) (N := 3) (by decide) (cap := 3) (by decide) (by decide) (by decide) (by decide) (ad := "[D") (by decide) (fun T11 h11 b11 X11 eH11 E11 g11 E_b11 V_b11 => ?_)
  have g_b11 : n0 ≤ b11 := g11 ▸ Z0
  replace Z0 := Nat.le_trans Z0 E11.1
  have V_b11 : Ary tr Z h11 b11 .double [(.double (0 : UInt64)), (.double (0 : UInt64)), (.double (0 : UInt64))] := V_b11
  refine own_dup X11 hx hby rfl at_73 (pc' := 74) rfl ?_
  refine own_iconst X11 hx hby (v := (0 : Int32)) (by decide) at_74 (pc' := 75) rfl ?_
  refine own_lload X11 hx hby rfl at_75 (pc' := 77) rfl ?_
  obtain ⟨v12, q_v12⟩ : ∃ z : UInt64, (FP.l2d n1) = z := ⟨_, rfl⟩
  have B_n1 := own_b8 q_n1
  have D_v12 : Dy v12 n1.toInt 0 := q_v12 ▸ dy_l2d (by omega) (by omega)
  refine own_l2d X11 hx hby q_v12 at_77 (pc' := 78) rfl ?_
  refine own_dastore X11 hx hby hZ eH11 V_b11 (by decide) (n := 0) (by decide) (of_decide_eq_true rfl) at_78 (pc' := 79) rfl (fun T13 h13 X13 eH13 W13 => ?_)
  replace E_b11 := E_b11.wr W13
  have N13 := Fr.snoc X13 N0 g_b11
  replace Z0 := Nat.le_trans Z0 (Nat.le_of_eq W13.size.symm)
  replace V_b11 : Ary tr Z h13 b11 .double [(.double v12), (.double (0 : UInt64)), (.double (0 : UInt64))] := V_b11.set W13
  refine own_dup X13 hx hby rfl at_79 (pc' := 80) rfl ?_
  refine own_iconst X13 hx hby (v := (1 : Int32)) (by decide) at_80 (pc' := 81) rfl ?_
  refine own_lload X13 hx hby rfl at_81 (pc' := 83) rfl ?_
  obtain ⟨v14, q_v14⟩ : ∃ z : UInt64, (FP.l2d n2) = z := ⟨_, rfl⟩
  have B_n2 := own_b8 q_n2
  have D_v14 : Dy v14 n2.toInt 0 := q_v14 ▸ dy_l2d (by omega) (by omega)
  refine own_l2d X13 hx hby q_v14 at_83 (pc' := 84) rfl ?_
  refine own_dastore X13 hx hby hZ eH13 V_b11 (by decide) (n := 1) (by decide) (of_decide_eq_true rfl) at_84 (pc' := 85) rfl (fun T15 h15 X15 eH15 W15 => ?_)
  replace E_b11 := E_b11.wr W15
  have N15 := Fr.snoc X15 N13 g_b11
  replace Z0 := Nat.le_trans Z0 (Nat.le_of_eq W15.size.symm)
  replace V_b11 : Ary tr Z h15 b11 .double [(.double v12), (.double v14), (.double (0 : UInt64))] := V_b11.set W15
  refine own_dup X15 hx hby rfl at_85 (pc' := 86) rfl ?_
  refine own_iconst X15 hx hby (v := (2 : Int32)) (by decide) at_86 (pc' := 87) rfl ?_
  refine own_lload X15 hx hby rfl at_87 (pc' := 89) rfl ?_
  obtain ⟨v16, q_v16⟩ : ∃ z : UInt64, (FP.l2d n3) = z := ⟨_, rfl⟩
  have B_n3 := own_b8 q_n3
  have D_v16 : Dy v16 n3.toInt 0 := q_v16 ▸ dy_l2d (by omega) (by omega)
  refine own_l2d X15 hx hby q_v16 at_89 (pc' := 90) rfl ?_
  refine own_dastore X15 hx hby hZ eH15 V_b11 (by decide) (n := 2) (by decide) (of_decide_eq_true rfl) at_90 (pc' := 91) rfl (fun T17 h17 X17 eH17 W17 => ?_)
  replace E_b11 := E_b11.wr W17
  have N17 := Fr.snoc X17 N15 g_b11
  replace Z0 := Nat.le_trans Z0 (Nat.le_of_eq W17.size.symm)
  replace V_b11 : Ary tr Z h17 b11 .double [(.double v12), (.double v14), (.double v16)] := V_b11.set W17
  refine own_astore X17 hx hby rfl (L' := #[.val (.int p0), .val (.int p1), .val (.int p2), .val (.int p3), .val (.int p4), .val (.long n1), .second, .val (.long n2), .second, .val (.long n3), .second, .val (.long n4), .second, .val (.long n5), .second, .val (.long n6), .second, .val (.long n7), .second, .val (.long n8), .second, .val (.int n9), .val (.int n10), .val (.ref b11), .unset, .unset, .unset, .unset, .unset]) rfl at_91 (pc' := 93) rfl ?_
  refine own_iconst X17 hx hby (v := (3 : Int32)) (by decide) at_93 (pc' := 94) rfl ?_
  refine own_newP X17 hx hby hZ (hw _ (List.mem_of_getElem? (i := 0) rfl)) eH17 at_94 (pc' := 96) rfl (by decide) (N := 3) (by decide) (cap := 3) (by decide) (by decide) (by decide) (by decide) (ad := "[D") (by decide) (fun T18 h18 b18 X18 eH18 E18 g18 E_b18 V_b18 => ?_)
  have g_b18 : n0 ≤ b18 := g18 ▸ Z0
  have ne_b11_b18 : b11 ≠ b18 := Nat.ne_of_lt (g18 ▸ E_b11.lt)
  replace E_b11 := E_b11.ext E18
  replace V_b11 := V_b11.ext E18
  replace Z0 := Nat.le_trans Z0 E18.1
  have V_b18 : Ary tr Z h18 b18 .double [(.double (0 : UInt64)), (.double (0 : UInt64)), (.double (0 : UInt64))] := V_b18
  refine own_dup X18 hx hby rfl at_96 (pc' := 97) rfl ?_
  refine own_iconst X18 hx hby (v := (0 : Int32)) (by decide) at_97 (pc' := 98) rfl ?_
  refine own_lload X18 hx hby rfl at_98 (pc' := 100) rfl ?_
  obtain ⟨v19, q_v19⟩ : ∃ z : UInt64, (FP.l2d n4) = z := ⟨_, rfl⟩
  have B_n4 := own_b8 q_n4
  have D_v19 : Dy v19 n4.toInt 0 := q_v19 ▸ dy_l2d (by omega) (by omega)
  refine own_l2d X18 hx hby q_v19 at_100 (pc' := 101) rfl ?_
  refine own_dastore X18 hx hby hZ eH18 V_b18 (by decide) (n := 0) (by decide) (of_decide_eq_true rfl) at_101 (pc' := 102) rfl (fun T20 h20 X20 eH20 W20 => ?_)
  replace E_b11 := E_b11.wr W20
  replace V_b11 := V_b11.other W20 ne_b11_b18
  replace E_b18 := E_b18.wr W20
  have N20 := Fr.snoc X20 N17 g_b18
  replace Z0 := Nat.le_trans Z0 (Nat.le_of_eq W20.size.symm)
  replace V_b18 : Ary tr Z h20 b18 .double [(.double v19), (.double (0 : UInt64)), (.double (0 : UInt64))] := V_b18.set W20
  refine own_dup X20 hx hby rfl at_102 (pc' := 103) rfl ?_
  refine own_iconst X20 hx hby (v := (1 : Int32)) (by decide) at_103 (pc' := 104) rfl ?_
  refine own_lload X20 hx hby rfl at_104 (pc' := 106) rfl ?_
  obtain ⟨v21, q_v21⟩ : ∃ z : UInt64, (FP.l2d n5) = z := ⟨_, rfl⟩
  have B_n5 := own_b8 q_n5
  have D_v21 : Dy v21 n5.toInt 0 := q_v21 ▸ dy_l2d (by omega) (by omega)
  refine own_l2d X20 hx hby q_v21 at_106 (pc' := 107) rfl ?_
  refine own_dastore X20 hx hby hZ eH20 V_b18 (by decide) (n := 1) (by decide) (of_decide_eq_true rfl) at_107 (pc' := 108) rfl (fun T22 h22 X22 eH22 W22 => ?_)
  replace E_b11 := E_b11.wr W22
  replace V_b11 := V_b11.other W22 ne_b11_b18
  replace E_b18 := E_b18.wr W22
  have N22 := Fr.snoc X22 N20 g_b18
  replace Z0 := Nat.le_trans Z0 (Nat.le_of_eq W22.size.symm)
  replace V_b18 : Ary tr Z h22 b18 .double [(.double v19), (.double v21), (.double (0 : UInt64))] := V_b18.set W22
  refine own_dup X22 hx hby rfl at_108 (pc' := 109) rfl ?_
  refine own_iconst X22 hx hby (v := (2 : Int32)) (by decide) at_109 (pc' := 110) rfl ?_
  refine own_lload X22 hx hby rfl at_110 (pc' := 112) rfl ?_
  obtain ⟨v23, q_v23⟩ : ∃ z : UInt64, (FP.l2d n6) = z := ⟨_, rfl⟩
  have B_n6 := own_b8 q_n6
  have D_v23 : Dy v23 n6.toInt 0 := q_v23 ▸ dy_l2d (by omega) (by omega)
  refine own_l2d X22 hx hby q_v23 at_112 (pc' := 113) rfl ?_
  refine own_dastore X22 hx hby hZ eH22 V_b18 (by decide) (n := 2) (by decide) (of_decide_eq_true rfl) at_113 (pc' := 114) rfl (fun T24 h24 X24 eH24 W24 => ?_)
  replace E_b11 := E_b11.wr W24
  replace V_b11 := V_b11.other W24 ne_b11_b18
  replace E_b18 := E_b18.wr W24
  have N24 := Fr.snoc X24 N22 g_b18
  replace Z0 := Nat.le_trans Z0 (Nat.le_of_eq W24.size.symm)
  replace V_b18 : Ary tr Z h24 b18 .double [(.double v19), (.double v21), (.double v23)] := V_b18.set W24
  refine own_astore X24 hx hby rfl (L' := #[.val (.int p0), .val (.int p1), .val (.int p2), .val (.int p3), .val (.int p4), .val (.long n1), .second, .val (.long n2), .second, .val (.long n3), .second, .val (.long n4), .second, .val (.long n5), .second, .val (.long n6), .second, .val (.long n7), .second, .val (.long n8), .second, .val (.int n9), .val (.int n10), .val (.ref b11), .val (.ref b18), .unset, .unset, .unset, .unset]) rfl at_114 (pc' := 116) rfl ?_
  refine own_iconst X24 hx hby (v := (3 : Int32)) (by decide) at_116 (pc' := 117) rfl ?_
  refine own_newP X24 hx hby hZ (hw _ (List.mem_of_getElem? (i := 1) rfl)) eH24 at_117 (pc' := 119) rfl (by decide) (N := 3) (by decide) (cap := 3) (by decide) (by decide) (by decide) (by decide) (ad := "[J") (by decide) (fun T25 h25 b25 X25 eH25 E25 g25 E_b25 V_b25 => ?_)
  have g_b25 : n0 ≤ b25 := g25 ▸ Z0
  have ne_b11_b25 : b11 ≠ b25 := Nat.ne_of_lt (g25 ▸ E_b11.lt)
  have ne_b18_b25 : b18 ≠ b25 := Nat.ne_of_lt (g25 ▸ E_b18.lt)
  replace E_b11 := E_b11.ext E25
  replace V_b11 := V_b11.ext E25
  replace E_b18 := E_b18.ext E25
  replace V_b18 := V_b18.ext E25
  replace Z0 := Nat.le_trans Z0 E25.1
  have V_b25 : Ary tr Z h25 b25 .long [(.long (0 : Int64)), (.long (0 : Int64)), (.long (0 : Int64))] := V_b25
  refine own_dup X25 hx hby rfl at_119 (pc' := 120) rfl ?_
  refine own_iconst X25 hx hby (v := (0 : Int32)) (by decide) at_120 (pc' := 121) rfl ?_
  refine own_lload X25 hx hby rfl at_121 (pc' := 123) rfl ?_
  refine own_lastore X25 hx hby hZ eH25 V_b25 (by decide) (n := 0) (by decide) (of_decide_eq_true rfl) at_123 (pc' := 124) rfl (fun T26 h26 X26 eH26 W26 => ?_)
  replace E_b11 := E_b11.wr W26
  replace V_b11 := V_b11.other W26 ne_b11_b25
  replace E_b18 := E_b18.wr W26
  replace V_b18 := V_b18.other W26 ne_b18_b25
  replace E_b25 := E_b25.wr W26
  have N26 := Fr.snoc X26 N24 g_b25
  replace Z0 := Nat.le_trans Z0 (Nat.le_of_eq W26.size.symm)
  replace V_b25 : Ary tr Z h26 b25 .long [(.long n1), (.long (0 : Int64)), (.long (0 : Int64))] := V_b25.set W26
  refine own_dup X26 hx hby rfl at_124 (pc' := 125) rfl ?_
  refine own_iconst X26 hx hby (v := (1 : Int32)) (by decide) at_125 (pc' := 126) rfl ?_
  refine own_lload X26 hx hby rfl at_126 (pc' := 128) rfl ?_
  refine own_lastore X26 hx hby hZ eH26 V_b25 (by decide) (n := 1) (by decide) (of_decide_eq_true rfl) at_128 (pc' := 129) rfl (fun T27 h27 X27 eH27 W27 => ?_)
  replace E_b11 := E_b11.wr W27
  replace V_b11 := V_b11.other W27 ne_b11_b25
  replace E_b18 := E_b18.wr W27
  replace V_b18 := V_b18.other W27 ne_b18_b25
  replace E_b25 := E_b25.wr W27
  have N27 := Fr.snoc X27 N26 g_b25
  replace Z0 := Nat.le_trans Z0 (Nat.le_of_eq W27.size.symm)
  replace V_b25 : Ary tr Z h27 b25 .long [(.long n1), (.long n2), (.long (0 : Int64))] := V_b25.set W27
  refine own_dup X27 hx hby rfl at_129 (pc' := 130) rfl ?_
  refine own_iconst X27 hx hby (v := (2 : Int32)) (by decide) at_130 (pc' := 131) rfl ?_
  refine own_lload X27 hx hby rfl at_131 (pc' := 133) rfl ?_
  refine own_lastore X27 hx hby hZ eH27 V_b25 (by decide) (n := 2) (by decide) (of_decide_eq_true rfl) at_133 (pc' := 134) rfl (fun T28 h28 X28 eH28 W28 => ?_)
  replace E_b11 := E_b11.wr W28
  replace V_b11 := V_b11.other W28 ne_b11_b25
  replace E_b18 := E_b18.wr W28
  replace V_b18 := V_b18.other W28 ne_b18_b25
  replace E_b25 := E_b25.wr W28
  have N28 := Fr.snoc X28 N27 g_b25
  replace Z0 := Nat.le_trans Z0 (Nat.le_of_eq W28.size.symm)
  replace V_b25 : Ary tr Z h28 b25 .long [(.long n1), (.long n2), (.long n3)] := V_b25.set W28
  refine own_astore X28 hx hby rfl (L' := #[.val (.int p0), .val (.int p1), .val (.int p2), .val (.int p3), .val (.int p4), .val (.long n1), .second, .val (.long n2), .second, .val (.long n3), .second, .val (.long n4), .second, .val (.long n5), .second, .val (.long n6), .second, .val (.long n7), .second, .val (.long n8), .second, .val (.int n9), .val (.int n10), .val (.ref b11), .val (.ref b18), .val (.ref b25), .unset, .unset, .unset]) rfl at_134 (pc' := 136) rfl ?_
  refine own_iconst X28 hx hby (v := (3 : Int32)) (by decide) at_136 (pc' := 137) rfl ?_
  refine own_newP X28 hx hby hZ (hw _ (List.mem_of_getElem? (i := 1) rfl)) eH28 at_137 (pc' := 139) rfl (by decide) (N := 3) (by decide) (cap := 3) (by decide) (by decide) (by decide) (by decide) (ad := "[J") (by decide) (fun T29 h29 b29 X29 eH29 E29 g29 E_b29 V_b29 => ?_)
  have g_b29 : n0 ≤ b29 := g29 ▸ Z0
  have ne_b11_b29 : b11 ≠ b29 := Nat.ne_of_lt (g29 ▸ E_b11.lt)
  have ne_b18_b29 : b18 ≠ b29 := Nat.ne_of_lt (g29 ▸ E_b18.lt)
  have ne_b25_b29 : b25 ≠ b29 := Nat.ne_of_lt (g29 ▸ E_b25.lt)
  replace E_b11 := E_b11.ext E29
  replace V_b11 := V_b11.ext E29
  replace E_b18 := E_b18.ext E29
  replace V_b18 := V_b18.ext E29
  replace E_b25 := E_b25.ext E29
  replace V_b25 := V_b25.ext E29
  replace Z0 := Nat.le_trans Z0 E29.1
  have V_b29 : Ary tr Z h29 b29 .long [(.long (0 : Int64)), (.long (0 : Int64)), (.long (0 : Int64))] := V_b29
  refine own_dup X29 hx hby rfl at_139 (pc' := 140) rfl ?_
  refine own_iconst X29 hx hby (v := (0 : Int32)) (by decide) at_140 (pc' := 141) rfl ?_
  refine own_lload X29 hx hby rfl at_141 (pc' := 143) rfl ?_
  refine own_lastore X29 hx hby hZ eH29 V_b29 (by decide) (n := 0) (by decide) (of_decide_eq_true rfl) at_143 (pc' := 144) rfl (fun T30 h30 X30 eH30 W30 => ?_)
  replace E_b11 := E_b11.wr W30
  replace V_b11 := V_b11.other W30 ne_b11_b29
  replace E_b18 := E_b18.wr W30
  replace V_b18 := V_b18.other W30 ne_b18_b29
  replace E_b25 := E_b25.wr W30
  replace V_b25 := V_b25.other W30 ne_b25_b29
  replace E_b29 := E_b29.wr W30
  have N30 := Fr.snoc X30 N28 g_b29
  replace Z0 := Nat.le_trans Z0 (Nat.le_of_eq W30.size.symm)
  replace V_b29 : Ary tr Z h30 b29 .long [(.long n4), (.long (0 : Int64)), (.long (0 : Int64))] := V_b29.set W30
  refine own_dup X30 hx hby rfl at_144 (pc' := 145) rfl ?_
  refine own_iconst X30 hx hby (v := (1 : Int32)) (by decide) at_145 (pc' := 146) rfl ?_
  refine own_lload X30 hx hby rfl at_146 (pc' := 148) rfl ?_
  refine own_lastore X30 hx hby hZ eH30 V_b29 (by decide) (n := 1) (by decide) (of_decide_eq_true rfl) at_148 (pc' := 149) rfl (fun T31 h31 X31 eH31 W31 => ?_)
  replace E_b11 := E_b11.wr W31
  replace V_b11 := V_b11.other W31 ne_b11_b29
  replace E_b18 := E_b18.wr W31
  replace V_b18 := V_b18.other W31 ne_b18_b29
  replace E_b25 := E_b25.wr W31
  replace V_b25 := V_b25.other W31 ne_b25_b29
  replace E_b29 := E_b29.wr W31
  have N31 := Fr.snoc X31 N30 g_b29
  replace Z0 := Nat.le_trans Z0 (Nat.le_of_eq W31.size.symm)
  replace V_b29 : Ary tr Z h31 b29 .long [(.long n4), (.long n5), (.long (0 : Int64))] := V_b29.set W31
  refine own_dup X31 hx hby rfl at_149 (pc' := 150) rfl ?_
  refine own_iconst X31 hx hby (v := (2 : Int32)) (by decide) at_150 (pc' := 151) rfl ?_
  refine own_lload X31 hx hby rfl at_151 (pc' := 153) rfl ?_
  refine own_lastore X31 hx hby hZ eH31 V_b29 (by decide) (n := 2) (by decide) (of_decide_eq_true rfl) at_153 (pc' := 154) rfl (fun T32 h32 X32 eH32 W32 => ?_)
  replace E_b11 := E_b11.wr W32
  replace V_b11 := V_b11.other W32 ne_b11_b29
  replace E_b18 := E_b18.wr W32
  replace V_b18 := V_b18.other W32 ne_b18_b29
  replace E_b25 := E_b25.wr W32
  replace V_b25 := V_b25.other W32 ne_b25_b29
  replace E_b29 := E_b29.wr W32
  have N32 := Fr.snoc X32 N31 g_b29
  replace Z0 := Nat.le_trans Z0 (Nat.le_of_eq W32.size.symm)
  replace V_b29 : Ary tr Z h32 b29 .long [(.long n4), (.long n5), (.long n6)] := V_b29.set W32
  refine own_astore X32 hx hby rfl (L' := #[.val (.int p0), .val (.int p1), .val (.int p2), .val (.int p3), .val (.int p4), .val (.long n1), .second, .val (.long n2), .second, .val (.long n3), .second, .val (.long n4), .second, .val (.long n5), .second, .val (.long n6), .second, .val (.long n7), .second, .val (.long n8), .second, .val (.int n9), .val (.int n10), .val (.ref b11), .val (.ref b18), .val (.ref b25), .val (.ref b29), .unset, .unset]) rfl at_154 (pc' := 156) rfl ?_
  refine own_newO X32 hx hby hZ hown (hw _ (List.mem_of_getElem? (i := 2) rfl)) (hw _ (List.mem_of_getElem? (i := 3) rfl)) (hw _ (List.mem_of_getElem? (i := 4) rfl)) eH32 at_156 (pc' := 159) rfl (by decide) (by decide) (fun T33 h33 b33 X33 eH33 E33 g33 E_b33 D33 => ?_)
  have g_b33 : n0 ≤ b33 := g33 ▸ Z0
  have ne_b11_b33 : b11 ≠ b33 := Nat.ne_of_lt (g33 ▸ E_b11.lt)
  have ne_b18_b33 : b18 ≠ b33 := Nat.ne_of_lt (g33 ▸ E_b18.lt)
  have ne_b25_b33 : b25 ≠ b33 := Nat.ne_of_lt (g33 ▸ E_b25.lt)
  have ne_b29_b33 : b29 ≠ b33 := Nat.ne_of_lt (g33 ▸ E_b29.lt)
  replace E_b11 := E_b11.ext E33
  replace V_b11 := V_b11.ext E33
  replace E_b18 := E_b18.ext E33
  replace V_b18 := V_b18.ext E33
  replace E_b25 := E_b25.ext E33
  replace V_b25 := V_b25.ext E33
  replace E_b29 := E_b29.ext E33
  replace V_b29 := V_b29.ext E33
  replace Z0 := Nat.le_trans Z0 E33.1
  have F_b33_velocity : Fld Z h33 b33 "com/example/volts_to_velocity/voltstovelocity/ScoreNoise" "velocity" "[[D" .null := D33 (Or.inr (hw _ (List.mem_of_getElem? (i := 14) rfl))) (ty := (.array (.array .double))) (by decide)
  have F_b33_voltage : Fld Z h33 b33 "com/example/volts_to_velocity/voltstovelocity/ScoreNoise" "voltage" "[[D" .null := D33 (Or.inr (hw _ (List.mem_of_getElem? (i := 16) rfl))) (ty := (.array (.array .double))) (by decide)
  refine own_dup X33 hx hby rfl at_159 (pc' := 160) rfl ?_
  refine own_special X33 hx hby hZ (y := (⟨"com/example/volts_to_velocity/voltstovelocity/ScoreNoise", "<init>", "()V"⟩ : MethodName)) (rest := [(.ref b33)]) rfl hown (hw _ (List.mem_of_getElem? (i := 5) rfl)) (hw _ (List.mem_of_getElem? (i := 6) rfl)) rfl (hw _ (List.mem_of_getElem? (i := 7) rfl)) (hw _ (List.mem_of_getElem? (i := 4) rfl)) (by decide) (rm1 l Z a0 hw [] b33 .null .null h33 n0 Z0 F_b33_velocity F_b33_voltage E_b33 g_b33) eH33 (by rw [hml]; rfl) (a := b33) (argsL := []) rfl (lenOf pd_1 rfl) rfl at_160 (pc' := 163) rfl (by decide) (W := 1) (Nat.le_of_eq rfl) (by decide) (by decide) (by decide) (fun T34 h34 Lc34 v34r X34 eH34 hQ34 => ?_)
  obtain ⟨b2_34, b2x_34, b2y_34, b2z_34, b4_34, b4x_34, b4y_34, b4z_34, rfl, Nq34, Kq34, gq34_0, gq34_1, gq34_2, gq34_3, gq34_4, gq34_5, gq34_6, gq34_7, gq34_8, gq34_9, gq34_10, gq34_11, gq34_12, gq34_13, gq34_14, gq34_15, gq34_16, gq34_17, gq34_18, gq34_19, gq34_20, gq34_21, gq34_22, gq34_23, gq34_24, gq34_25, gq34_26, gq34_27, gq34_28, gq34_29, gq34_30, gq34_31, gq34_32, gq34_33, gq34_34, gq34_35, gq34_36, gq34_37, gq34_38, gq34_39, gq34_40, gq34_41, gq34_42, gq34_43, gq34_44, gq34_45, gq34_46, gq34_47, gq34_48, gq34_49, gq34_50, gq34_51, gq34_52, gq34_53, gq34_54⟩ := hQ34
  have N34 := Fr.app N32 Nq34
  have g_b2_34 : n0 ≤ b2_34 := Nat.le_trans Z0 gq34_0
  have ne_b11_b2_34 : b11 ≠ b2_34 := Nat.ne_of_lt (Nat.lt_of_lt_of_le E_b11.lt gq34_0)
  have ne_b18_b2_34 : b18 ≠ b2_34 := Nat.ne_of_lt (Nat.lt_of_lt_of_le E_b18.lt gq34_0)
  have ne_b25_b2_34 : b25 ≠ b2_34 := Nat.ne_of_lt (Nat.lt_of_lt_of_le E_b25.lt gq34_0)
  have ne_b29_b2_34 : b29 ≠ b2_34 := Nat.ne_of_lt (Nat.lt_of_lt_of_le E_b29.lt gq34_0)
  have ne_b33_b2_34 : b33 ≠ b2_34 := Nat.ne_of_lt (Nat.lt_of_lt_of_le E_b33.lt gq34_0)
  have g_b2x_34 : n0 ≤ b2x_34 := Nat.le_trans Z0 gq34_1
  have ne_b11_b2x_34 : b11 ≠ b2x_34 := Nat.ne_of_lt (Nat.lt_of_lt_of_le E_b11.lt gq34_1)
  have ne_b18_b2x_34 : b18 ≠ b2x_34 := Nat.ne_of_lt (Nat.lt_of_lt_of_le E_b18.lt gq34_1)
  have ne_b25_b2x_34 : b25 ≠ b2x_34 := Nat.ne_of_lt (Nat.lt_of_lt_of_le E_b25.lt gq34_1)
  have ne_b29_b2x_34 : b29 ≠ b2x_34 := Nat.ne_of_lt (Nat.lt_of_lt_of_le E_b29.lt gq34_1)
  have ne_b33_b2x_34 : b33 ≠ b2x_34 := Nat.ne_of_lt (Nat.lt_of_lt_of_le E_b33.lt gq34_1)
  have g_b2y_34 : n0 ≤ b2y_34 := Nat.le_trans Z0 gq34_2
  have ne_b11_b2y_34 : b11 ≠ b2y_34 := Nat.ne_of_lt (Nat.lt_of_lt_of_le E_b11.lt gq34_2)
  have ne_b18_b2y_34 : b18 ≠ b2y_34 := Nat.ne_of_lt (Nat.lt_of_lt_of_le E_b18.lt gq34_2)
  have ne_b25_b2y_34 : b25 ≠ b2y_34 := Nat.ne_of_lt (Nat.lt_of_lt_of_le E_b25.lt gq34_2)
  have ne_b29_b2y_34 : b29 ≠ b2y_34 := Nat.ne_of_lt (Nat.lt_of_lt_of_le E_b29.lt gq34_2)
  have ne_b33_b2y_34 : b33 ≠ b2y_34 := Nat.ne_of_lt (Nat.lt_of_lt_of_le E_b33.lt gq34_2)
  have g_b2z_34 : n0 ≤ b2z_34 := Nat.le_trans Z0 gq34_3
  have ne_b11_b2z_34 : b11 ≠ b2z_34 := Nat.ne_of_lt (Nat.lt_of_lt_of_le E_b11.lt gq34_3)
  have ne_b18_b2z_34 : b18 ≠ b2z_34 := Nat.ne_of_lt (Nat.lt_of_lt_of_le E_b18.lt gq34_3)
  have ne_b25_b2z_34 : b25 ≠ b2z_34 := Nat.ne_of_lt (Nat.lt_of_lt_of_le E_b25.lt gq34_3)
  have ne_b29_b2z_34 : b29 ≠ b2z_34 := Nat.ne_of_lt (Nat.lt_of_lt_of_le E_b29.lt gq34_3)
  have ne_b33_b2z_34 : b33 ≠ b2z_34 := Nat.ne_of_lt (Nat.lt_of_lt_of_le E_b33.lt gq34_3)
  have g_b4_34 : n0 ≤ b4_34 := Nat.le_trans Z0 gq34_4
  have ne_b11_b4_34 : b11 ≠ b4_34 := Nat.ne_of_lt (Nat.lt_of_lt_of_le E_b11.lt gq34_4)
  have ne_b18_b4_34 : b18 ≠ b4_34 := Nat.ne_of_lt (Nat.lt_of_lt_of_le E_b18.lt gq34_4)
  have ne_b25_b4_34 : b25 ≠ b4_34 := Nat.ne_of_lt (Nat.lt_of_lt_of_le E_b25.lt gq34_4)
  have ne_b29_b4_34 : b29 ≠ b4_34 := Nat.ne_of_lt (Nat.lt_of_lt_of_le E_b29.lt gq34_4)
  have ne_b33_b4_34 : b33 ≠ b4_34 := Nat.ne_of_lt (Nat.lt_of_lt_of_le E_b33.lt gq34_4)
  have g_b4x_34 : n0 ≤ b4x_34 := Nat.le_trans Z0 gq34_5
  have ne_b11_b4x_34 : b11 ≠ b4x_34 := Nat.ne_of_lt (Nat.lt_of_lt_of_le E_b11.lt gq34_5)
  have ne_b18_b4x_34 : b18 ≠ b4x_34 := Nat.ne_of_lt (Nat.lt_of_lt_of_le E_b18.lt gq34_5)
  have ne_b25_b4x_34 : b25 ≠ b4x_34 := Nat.ne_of_lt (Nat.lt_of_lt_of_le E_b25.lt gq34_5)
  have ne_b29_b4x_34 : b29 ≠ b4x_34 := Nat.ne_of_lt (Nat.lt_of_lt_of_le E_b29.lt gq34_5)
  have ne_b33_b4x_34 : b33 ≠ b4x_34 := Nat.ne_of_lt (Nat.lt_of_lt_of_le E_b33.lt gq34_5)
  have g_b4y_34 : n0 ≤ b4y_34 := Nat.le_trans Z0 gq34_6
  have ne_b11_b4y_34 : b11 ≠ b4y_34 := Nat.ne_of_lt (Nat.lt_of_lt_of_le E_b11.lt gq34_6)
  have ne_b18_b4y_34 : b18 ≠ b4y_34 := Nat.ne_of_lt (Nat.lt_of_lt_of_le E_b18.lt gq34_6)
  have ne_b25_b4y_34 : b25 ≠ b4y_34 := Nat.ne_of_lt (Nat.lt_of_lt_of_le E_b25.lt gq34_6)
  have ne_b29_b4y_34 : b29 ≠ b4y_34 := Nat.ne_of_lt (Nat.lt_of_lt_of_le E_b29.lt gq34_6)
  have ne_b33_b4y_34 : b33 ≠ b4y_34 := Nat.ne_of_lt (Nat.lt_of_lt_of_le E_b33.lt gq34_6)
  have g_b4z_34 : n0 ≤ b4z_34 := Nat.le_trans Z0 gq34_7
  have ne_b11_b4z_34 : b11 ≠ b4z_34 := Nat.ne_of_lt (Nat.lt_of_lt_of_le E_b11.lt gq34_7)
  have ne_b18_b4z_34 : b18 ≠ b4z_34 := Nat.ne_of_lt (Nat.lt_of_lt_of_le E_b18.lt gq34_7)
  have ne_b25_b4z_34 : b25 ≠ b4z_34 := Nat.ne_of_lt (Nat.lt_of_lt_of_le E_b25.lt gq34_7)
  have ne_b29_b4z_34 : b29 ≠ b4z_34 := Nat.ne_of_lt (Nat.lt_of_lt_of_le E_b29.lt gq34_7)
  have ne_b33_b4z_34 : b33 ≠ b4z_34 := Nat.ne_of_lt (Nat.lt_of_lt_of_le E_b33.lt gq34_7)
  replace E_b11 := E_b11.keep Kq34
  replace V_b11 := V_b11.keep Kq34 (ninS ne_b11_b33 nin0)
  replace E_b18 := E_b18.keep Kq34
  replace V_b18 := V_b18.keep Kq34 (ninS ne_b18_b33 nin0)
  replace E_b25 := E_b25.keep Kq34
  replace V_b25 := V_b25.keep Kq34 (ninS ne_b25_b33 nin0)
  replace E_b29 := E_b29.keep Kq34
  replace V_b29 := V_b29.keep Kq34 (ninS ne_b29_b33 nin0)
  replace E_b33 := E_b33.keep Kq34
  have ne_b2_34_b2x_34 := gq34_8
  have ne_b2_34_b2y_34 := gq34_9
  have ne_b2_34_b2z_34 := gq34_10
  have ne_b2_34_b4_34 := gq34_11
  have ne_b2_34_b4x_34 := gq34_12
  have ne_b2_34_b4y_34 := gq34_13
  have ne_b2_34_b4z_34 := gq34_14
  have ne_b2x_34_b2y_34 := gq34_15
  have ne_b2x_34_b2z_34 := gq34_16
  have ne_b2x_34_b4_34 := gq34_17
  have ne_b2x_34_b4x_34 := gq34_18
  have ne_b2x_34_b4y_34 := gq34_19
  have ne_b2x_34_b4z_34 := gq34_20
  have ne_b2y_34_b2z_34 := gq34_21
  have ne_b2y_34_b4_34 := gq34_22
  have ne_b2y_34_b4x_34 := gq34_23
  have ne_b2y_34_b4y_34 := gq34_24
  have ne_b2y_34_b4z_34 := gq34_25
  have ne_b2z_34_b4_34 := gq34_26
  have ne_b2z_34_b4x_34 := gq34_27
  have ne_b2z_34_b4y_34 := gq34_28
  have ne_b2z_34_b4z_34 := gq34_29
  have ne_b4_34_b4x_34 := gq34_30
  have ne_b4_34_b4y_34 := gq34_31
  have ne_b4_34_b4z_34 := gq34_32
  have ne_b4x_34_b4y_34 := gq34_33
  have ne_b4x_34_b4z_34 := gq34_34
  have ne_b4y_34_b4z_34 := gq34_35
  have E_b33 := gq34_36
  have F_b33_velocity := gq34_37
  have F_b33_voltage := gq34_38
  have E_b2_34 := gq34_39
  have V_b2_34 := gq34_40
  have E_b2x_34 := gq34_41
  have V_b2x_34 := gq34_42
  have E_b2y_34 := gq34_43
  have V_b2y_34 := gq34_44
  have E_b2z_34 := gq34_45
  have V_b2z_34 := gq34_46
  have E_b4_34 := gq34_47
  have V_b4_34 := gq34_48
  have E_b4x_34 := gq34_49
  have V_b4x_34 := gq34_50
  have E_b4y_34 := gq34_51
  have V_b4y_34 := gq34_52
  have E_b4z_34 := gq34_53
  have V_b4z_34 := gq34_54
  replace Z0 := Nat.le_trans Z0 Kq34.1
  refine own_astore X34 hx hby rfl (L' := #[.val (.int p0), .val (.int p1), .val (.int p2), .val (.int p3), .val (.int p4), .val (.long n1), .second, .val (.long n2), .second, .val (.long n3), .second, .val (.long n4), .second, .val (.long n5), .second, .val (.long n6), .second, .val (.long n7), .second, .val (.long n8), .second, .val (.int n9), .val (.int n10), .val (.ref b11), .val (.ref b18), .val (.ref b25), .val (.ref b29), .val (.ref b33), .unset]) rfl at_163 (pc' := 165) rfl ?_
  refine own_aload X34 hx hby rfl rfl at_165 (pc' := 167) rfl ?_
  refine own_aload X34 hx hby rfl rfl at_167 (pc' := 169) rfl ?_
  refine own_iload X34 hx hby rfl at_169 (pc' := 171) rfl ?_
  have EH00 := own_el D_v12 D_v12 B_n1 B_n1 er hj
  have EH01 := own_el D_v12 D_v14 B_n1 B_n2 er hj
  have EH02 := own_el D_v12 D_v16 B_n1 B_n3 er hj
  have EH10 := own_el D_v14 D_v12 B_n2 B_n1 er hj
  have EH11 := own_el D_v14 D_v14 B_n2 B_n2 er hj
  have EH12 := own_el D_v14 D_v16 B_n2 B_n3 er hj
  have EH20 := own_el D_v16 D_v12 B_n3 B_n1 er hj
  have EH21 := own_el D_v16 D_v14 B_n3 B_n2 er hj
  have EH22 := own_el D_v16 D_v16 B_n3 B_n3 er hj
  refine own_virtual X34 hx hby hZ (y := (⟨"com/example/volts_to_velocity/voltstovelocity/ScoreNoise", "addVelocity", "([DI)V"⟩ : MethodName)) (y' := (⟨"com/example/volts_to_velocity/voltstovelocity/ScoreNoise", "addVelocity", "([DI)V"⟩ : MethodName)) (C := "com/example/volts_to_velocity/voltstovelocity/ScoreNoise") (rest := []) hown (hw _ (List.mem_of_getElem? (i := 17) rfl)) (hw _ (List.mem_of_getElem? (i := 18) rfl)) (notFace_of_selects (args := #[]) (mvT hZ (hw _ (List.mem_of_getElem? (i := 20) rfl)))) (hw _ (List.mem_of_getElem? (i := 20) rfl)) (hw _ (List.mem_of_getElem? (i := 19) rfl)) (hw _ (List.mem_of_getElem? (i := 21) rfl)) (hw _ (List.mem_of_getElem? (i := 4) rfl)) (by decide) (rm3 l Z a0 hw [] b33 b11 n9 b2_34 b2x_34 b2y_34 b2z_34 (0 : UInt64) (0 : UInt64) (0 : UInt64) (0 : UInt64) (0 : UInt64) (0 : UInt64) (0 : UInt64) (0 : UInt64) (0 : UInt64) v12 v14 v16 h34 n0 Z0 F_b33_velocity V_b2_34 V_b2x_34 V_b2y_34 V_b2z_34 V_b11 EH00.1 EH00.2.1 EH00.2.2.1 g_b2x_34 ne_b2_34_b2x_34 ne_b11_b2x_34 (Ne.symm ne_b2x_34_b2y_34) (Ne.symm ne_b2x_34_b2z_34) EH01.1 EH01.2.1 EH01.2.2.1 EH02.1 EH02.2.1 EH02.2.2.1 EH10.1 EH10.2.1 EH10.2.2.1 g_b2y_34 ne_b2_34_b2y_34 ne_b11_b2y_34 (Ne.symm ne_b2y_34_b2z_34) EH11.1 EH11.2.1 EH11.2.2.1 EH12.1 EH12.2.1 EH12.2.2.1 EH20.1 EH20.2.1 EH20.2.2.1 g_b2z_34 ne_b2_34_b2z_34 ne_b11_b2z_34 EH21.1 EH21.2.1 EH21.2.2.1 EH22.1 EH22.2.1 EH22.2.2.1 ne_b33_b2z_34 ne_b33_b2y_34 ne_b33_b2x_34) eH34 (by rw [hml]; rfl) (a := b33) E_b33 (argsL := [(.ref b11), (.int n9)]) rfl (lenOf pd_2 rfl) rfl at_171 (pc' := 174) rfl (by decide) (W := 0) (Nat.le_of_eq rfl) (by decide) (by decide) (by decide) (fun T35 h35 Lc35 v35r X35 eH35 hQ35 => ?_)
  obtain ⟨rfl, Nq35, Kq35, gq35_0, gq35_1, gq35_2⟩ := hQ35
  have N35 := Fr.app N34 Nq35
  replace E_b11 := E_b11.keep Kq35
  replace V_b11 := V_b11.keep Kq35 (ninS ne_b11_b2z_34 (ninS ne_b11_b2y_34 (ninS ne_b11_b2x_34 nin0)))
  replace E_b18 := E_b18.keep Kq35
  replace V_b18 := V_b18.keep Kq35 (ninS ne_b18_b2z_34 (ninS ne_b18_b2y_34 (ninS ne_b18_b2x_34 nin0)))
  replace E_b25 := E_b25.keep Kq35
  replace V_b25 := V_b25.keep Kq35 (ninS ne_b25_b2z_34 (ninS ne_b25_b2y_34 (ninS ne_b25_b2x_34 nin0)))
  replace E_b29 := E_b29.keep Kq35
  replace V_b29 := V_b29.keep Kq35 (ninS ne_b29_b2z_34 (ninS ne_b29_b2y_34 (ninS ne_b29_b2x_34 nin0)))
  replace E_b33 := E_b33.keep Kq35
  replace F_b33_velocity := F_b33_velocity.keep Kq35 (ninS ne_b33_b2z_34 (ninS ne_b33_b2y_34 (ninS ne_b33_b2x_34 nin0)))
  replace F_b33_voltage := F_b33_voltage.keep Kq35 (ninS ne_b33_b2z_34 (ninS ne_b33_b2y_34 (ninS ne_b33_b2x_34 nin0)))
  replace E_b2_34 := E_b2_34.keep Kq35
  replace V_b2_34 := V_b2_34.keep Kq35 (ninS ne_b2_34_b2z_34 (ninS ne_b2_34_b2y_34 (ninS ne_b2_34_b2x_34 nin0)))
  replace E_b2x_34 := E_b2x_34.keep Kq35
  replace E_b2y_34 := E_b2y_34.keep Kq35
  replace E_b2z_34 := E_b2z_34.keep Kq35
  replace E_b4_34 := E_b4_34.keep Kq35
  replace V_b4_34 := V_b4_34.keep Kq35 (ninS (Ne.symm ne_b2z_34_b4_34) (ninS (Ne.symm ne_b2y_34_b4_34) (ninS (Ne.symm ne_b2x_34_b4_34) nin0)))
  replace E_b4x_34 := E_b4x_34.keep Kq35
  replace V_b4x_34 := V_b4x_34.keep Kq35 (ninS (Ne.symm ne_b2z_34_b4x_34) (ninS (Ne.symm ne_b2y_34_b4x_34) (ninS (Ne.symm ne_b2x_34_b4x_34) nin0)))
  replace E_b4y_34 := E_b4y_34.keep Kq35
  replace V_b4y_34 := V_b4y_34.keep Kq35 (ninS (Ne.symm ne_b2z_34_b4y_34) (ninS (Ne.symm ne_b2y_34_b4y_34) (ninS (Ne.symm ne_b2x_34_b4y_34) nin0)))
  replace E_b4z_34 := E_b4z_34.keep Kq35
  replace V_b4z_34 := V_b4z_34.keep Kq35 (ninS (Ne.symm ne_b2z_34_b4z_34) (ninS (Ne.symm ne_b2y_34_b4z_34) (ninS (Ne.symm ne_b2x_34_b4z_34) nin0)))
  obtain ⟨v36, q_v36⟩ : ∃ z : UInt64, (FP.dadd (0 : UInt64) (FP.ddiv (FP.dmul v16 v12) (FP.i2d n9))) = z := ⟨_, rfl⟩
  obtain ⟨v37, q_v37⟩ : ∃ z : UInt64, (FP.dadd (0 : UInt64) (FP.ddiv (FP.dmul v16 v14) (FP.i2d n9))) = z := ⟨_, rfl⟩
  obtain ⟨v38, q_v38⟩ : ∃ z : UInt64, (FP.dadd (0 : UInt64) (FP.ddiv (FP.dmul v16 v16) (FP.i2d n9))) = z := ⟨_, rfl⟩
  have V_b2z_34 : Ary tr Z h35 b2z_34 .double [(.double v36), (.double v37), (.double v38)] := by rw [← q_v36, ← q_v37, ← q_v38]; exact gq35_0
  obtain ⟨v39, q_v39⟩ : ∃ z : UInt64, (FP.dadd (0 : UInt64) (FP.ddiv (FP.dmul v14 v12) (FP.i2d n9))) = z := ⟨_, rfl⟩
  obtain ⟨v40, q_v40⟩ : ∃ z : UInt64, (FP.dadd (0 : UInt64) (FP.ddiv (FP.dmul v14 v14) (FP.i2d n9))) = z := ⟨_, rfl⟩
  obtain ⟨v41, q_v41⟩ : ∃ z : UInt64, (FP.dadd (0 : UInt64) (FP.ddiv (FP.dmul v14 v16) (FP.i2d n9))) = z := ⟨_, rfl⟩
  have V_b2y_34 : Ary tr Z h35 b2y_34 .double [(.double v39), (.double v40), (.double v41)] := by rw [← q_v39, ← q_v40, ← q_v41]; exact gq35_1
  obtain ⟨v42, q_v42⟩ : ∃ z : UInt64, (FP.dadd (0 : UInt64) (FP.ddiv (FP.dmul v12 v12) (FP.i2d n9))) = z := ⟨_, rfl⟩
  obtain ⟨v43, q_v43⟩ : ∃ z : UInt64, (FP.dadd (0 : UInt64) (FP.ddiv (FP.dmul v12 v14) (FP.i2d n9))) = z := ⟨_, rfl⟩
  obtain ⟨v44, q_v44⟩ : ∃ z : UInt64, (FP.dadd (0 : UInt64) (FP.ddiv (FP.dmul v12 v16) (FP.i2d n9))) = z := ⟨_, rfl⟩
  have V_b2x_34 : Ary tr Z h35 b2x_34 .double [(.double v42), (.double v43), (.double v44)] := by rw [← q_v42, ← q_v43, ← q_v44]; exact gq35_2
  replace Z0 := Nat.le_trans Z0 Kq35.1
  have D_v42 : Dy v42 (n1.toInt * n1.toInt) j := by have q := EH00.2.2.2.1; rwa [q_v42] at q
  have D_v43 : Dy v43 (n1.toInt * n2.toInt) j := by have q := EH01.2.2.2.1; rwa [q_v43] at q
  have D_v44 : Dy v44 (n1.toInt * n3.toInt) j := by have q := EH02.2.2.2.1; rwa [q_v44] at q
  have D_v39 : Dy v39 (n2.toInt * n1.toInt) j := by have q := EH10.2.2.2.1; rwa [q_v39] at q
  have D_v40 : Dy v40 (n2.toInt * n2.toInt) j := by have q := EH11.2.2.2.1; rwa [q_v40] at q
  have D_v41 : Dy v41 (n2.toInt * n3.toInt) j := by have q := EH12.2.2.2.1; rwa [q_v41] at q
  have D_v36 : Dy v36 (n3.toInt * n1.toInt) j := by have q := EH20.2.2.2.1; rwa [q_v36] at q
  have D_v37 : Dy v37 (n3.toInt * n2.toInt) j := by have q := EH21.2.2.2.1; rwa [q_v37] at q
  have D_v38 : Dy v38 (n3.toInt * n3.toInt) j := by have q := EH22.2.2.2.1; rwa [q_v38] at q
  refine own_aload X35 hx hby rfl rfl at_174 (pc' := 176) rfl ?_
  refine own_aload X35 hx hby rfl rfl at_176 (pc' := 178) rfl ?_
  refine own_iload X35 hx hby rfl at_178 (pc' := 180) rfl ?_
  have EG00 := own_el D_v19 D_v19 B_n4 B_n4 es hi
  have EG01 := own_el D_v19 D_v21 B_n4 B_n5 es hi
  have EG02 := own_el D_v19 D_v23 B_n4 B_n6 es hi
  have EG10 := own_el D_v21 D_v19 B_n5 B_n4 es hi
  have EG11 := own_el D_v21 D_v21 B_n5 B_n5 es hi
  have EG12 := own_el D_v21 D_v23 B_n5 B_n6 es hi
  have EG20 := own_el D_v23 D_v19 B_n6 B_n4 es hi
  have EG21 := own_el D_v23 D_v21 B_n6 B_n5 es hi
  have EG22 := own_el D_v23 D_v23 B_n6 B_n6 es hi
  refine own_virtual X35 hx hby hZ (y := (⟨"com/example/volts_to_velocity/voltstovelocity/ScoreNoise", "addVoltage", "([DI)V"⟩ : MethodName)) (y' := (⟨"com/example/volts_to_velocity/voltstovelocity/ScoreNoise", "addVoltage", "([DI)V"⟩ : MethodName)) (C := "com/example/volts_to_velocity/voltstovelocity/ScoreNoise") (rest := []) hown (hw _ (List.mem_of_getElem? (i := 25) rfl)) (hw _ (List.mem_of_getElem? (i := 26) rfl)) (notFace_of_selects (args := #[]) (mvT hZ (hw _ (List.mem_of_getElem? (i := 28) rfl)))) (hw _ (List.mem_of_getElem? (i := 28) rfl)) (hw _ (List.mem_of_getElem? (i := 27) rfl)) (hw _ (List.mem_of_getElem? (i := 29) rfl)) (hw _ (List.mem_of_getElem? (i := 4) rfl)) (by decide) (rm5 l Z a0 hw [] b33 b18 n10 b4_34 b4x_34 b4y_34 b4z_34 (0 : UInt64) (0 : UInt64) (0 : UInt64) (0 : UInt64) (0 : UInt64) (0 : UInt64) (0 : UInt64) (0 : UInt64) (0 : UInt64) v19 v21 v23 h35 n0 Z0 F_b33_voltage V_b4_34 V_b4x_34 V_b4y_34 V_b4z_34 V_b18 EG00.1 EG00.2.1 EG00.2.2.1 g_b4x_34 ne_b4_34_b4x_34 ne_b18_b4x_34 (Ne.symm ne_b4x_34_b4y_34) (Ne.symm ne_b4x_34_b4z_34) EG01.1 EG01.2.1 EG01.2.2.1 EG02.1 EG02.2.1 EG02.2.2.1 EG10.1 EG10.2.1 EG10.2.2.1 g_b4y_34 ne_b4_34_b4y_34 ne_b18_b4y_34 (Ne.symm ne_b4y_34_b4z_34) EG11.1 EG11.2.1 EG11.2.2.1 EG12.1 EG12.2.1 EG12.2.2.1 EG20.1 EG20.2.1 EG20.2.2.1 g_b4z_34 ne_b4_34_b4z_34 ne_b18_b4z_34 EG21.1 EG21.2.1 EG21.2.2.1 EG22.1 EG22.2.1 EG22.2.2.1 ne_b33_b4z_34 ne_b33_b4y_34 ne_b33_b4x_34) eH35 (by rw [hml]; rfl) (a := b33) E_b33 (argsL := [(.ref b18), (.int n10)]) rfl (lenOf pd_2 rfl) rfl at_180 (pc' := 183) rfl (by decide) (W := 0) (Nat.le_of_eq rfl) (by decide) (by decide) (by decide) (fun T45 h45 Lc45 v45r X45 eH45 hQ45 => ?_)
  obtain ⟨rfl, Nq45, Kq45, gq45_0, gq45_1, gq45_2⟩ := hQ45
  have N45 := Fr.app N35 Nq45
  replace E_b11 := E_b11.keep Kq45
  replace V_b11 := V_b11.keep Kq45 (ninS ne_b11_b4z_34 (ninS ne_b11_b4y_34 (ninS ne_b11_b4x_34 nin0)))
  replace E_b18 := E_b18.keep Kq45
  replace V_b18 := V_b18.keep Kq45 (ninS ne_b18_b4z_34 (ninS ne_b18_b4y_34 (ninS ne_b18_b4x_34 nin0)))
  replace E_b25 := E_b25.keep Kq45
  replace V_b25 := V_b25.keep Kq45 (ninS ne_b25_b4z_34 (ninS ne_b25_b4y_34 (ninS ne_b25_b4x_34 nin0)))
  replace E_b29 := E_b29.keep Kq45
  replace V_b29 := V_b29.keep Kq45 (ninS ne_b29_b4z_34 (ninS ne_b29_b4y_34 (ninS ne_b29_b4x_34 nin0)))
  replace E_b33 := E_b33.keep Kq45
  replace F_b33_velocity := F_b33_velocity.keep Kq45 (ninS ne_b33_b4z_34 (ninS ne_b33_b4y_34 (ninS ne_b33_b4x_34 nin0)))
  replace F_b33_voltage := F_b33_voltage.keep Kq45 (ninS ne_b33_b4z_34 (ninS ne_b33_b4y_34 (ninS ne_b33_b4x_34 nin0)))
  replace E_b2_34 := E_b2_34.keep Kq45
  replace V_b2_34 := V_b2_34.keep Kq45 (ninS ne_b2_34_b4z_34 (ninS ne_b2_34_b4y_34 (ninS ne_b2_34_b4x_34 nin0)))
  replace E_b2x_34 := E_b2x_34.keep Kq45
  replace V_b2x_34 := V_b2x_34.keep Kq45 (ninS ne_b2x_34_b4z_34 (ninS ne_b2x_34_b4y_34 (ninS ne_b2x_34_b4x_34 nin0)))
  replace E_b2y_34 := E_b2y_34.keep Kq45
  replace V_b2y_34 := V_b2y_34.keep Kq45 (ninS ne_b2y_34_b4z_34 (ninS ne_b2y_34_b4y_34 (ninS ne_b2y_34_b4x_34 nin0)))
  replace E_b2z_34 := E_b2z_34.keep Kq45
  replace V_b2z_34 := V_b2z_34.keep Kq45 (ninS ne_b2z_34_b4z_34 (ninS ne_b2z_34_b4y_34 (ninS ne_b2z_34_b4x_34 nin0)))
  replace E_b4_34 := E_b4_34.keep Kq45
  replace V_b4_34 := V_b4_34.keep Kq45 (ninS ne_b4_34_b4z_34 (ninS ne_b4_34_b4y_34 (ninS ne_b4_34_b4x_34 nin0)))
  replace E_b4x_34 := E_b4x_34.keep Kq45
  replace E_b4y_34 := E_b4y_34.keep Kq45
  replace E_b4z_34 := E_b4z_34.keep Kq45
  obtain ⟨v46, q_v46⟩ : ∃ z : UInt64, (FP.dadd (0 : UInt64) (FP.ddiv (FP.dmul v23 v19) (FP.i2d n10))) = z := ⟨_, rfl⟩
  obtain ⟨v47, q_v47⟩ : ∃ z : UInt64, (FP.dadd (0 : UInt64) (FP.ddiv (FP.dmul v23 v21) (FP.i2d n10))) = z := ⟨_, rfl⟩
  obtain ⟨v48, q_v48⟩ : ∃ z : UInt64, (FP.dadd (0 : UInt64) (FP.ddiv (FP.dmul v23 v23) (FP.i2d n10))) = z := ⟨_, rfl⟩
  have V_b4z_34 : Ary tr Z h45 b4z_34 .double [(.double v46), (.double v47), (.double v48)] := by rw [← q_v46, ← q_v47, ← q_v48]; exact gq45_0
  obtain ⟨v49, q_v49⟩ : ∃ z : UInt64, (FP.dadd (0 : UInt64) (FP.ddiv (FP.dmul v21 v19) (FP.i2d n10))) = z := ⟨_, rfl⟩
  obtain ⟨v50, q_v50⟩ : ∃ z : UInt64, (FP.dadd (0 : UInt64) (FP.ddiv (FP.dmul v21 v21) (FP.i2d n10))) = z := ⟨_, rfl⟩
  obtain ⟨v51, q_v51⟩ : ∃ z : UInt64, (FP.dadd (0 : UInt64) (FP.ddiv (FP.dmul v21 v23) (FP.i2d n10))) = z := ⟨_, rfl⟩
  have V_b4y_34 : Ary tr Z h45 b4y_34 .double [(.double v49), (.double v50), (.double v51)] := by rw [← q_v49, ← q_v50, ← q_v51]; exact gq45_1
  obtain ⟨v52, q_v52⟩ : ∃ z : UInt64, (FP.dadd (0 : UInt64) (FP.ddiv (FP.dmul v19 v19) (FP.i2d n10))) = z := ⟨_, rfl⟩
  obtain ⟨v53, q_v53⟩ : ∃ z : UInt64, (FP.dadd (0 : UInt64) (FP.ddiv (FP.dmul v19 v21) (FP.i2d n10))) = z := ⟨_, rfl⟩
  obtain ⟨v54, q_v54⟩ : ∃ z : UInt64, (FP.dadd (0 : UInt64) (FP.ddiv (FP.dmul v19 v23) (FP.i2d n10))) = z := ⟨_, rfl⟩
  have V_b4x_34 : Ary tr Z h45 b4x_34 .double [(.double v52), (.double v53), (.double v54)] := by rw [← q_v52, ← q_v53, ← q_v54]; exact gq45_2
  replace Z0 := Nat.le_trans Z0 Kq45.1
  have D_v52 : Dy v52 (n4.toInt * n4.toInt) i := by have q := EG00.2.2.2.1; rwa [q_v52] at q
  have D_v53 : Dy v53 (n4.toInt * n5.toInt) i := by have q := EG01.2.2.2.1; rwa [q_v53] at q
  have D_v54 : Dy v54 (n4.toInt * n6.toInt) i := by have q := EG02.2.2.2.1; rwa [q_v54] at q
  have D_v49 : Dy v49 (n5.toInt * n4.toInt) i := by have q := EG10.2.2.2.1; rwa [q_v49] at q
  have D_v50 : Dy v50 (n5.toInt * n5.toInt) i := by have q := EG11.2.2.2.1; rwa [q_v50] at q
  have D_v51 : Dy v51 (n5.toInt * n6.toInt) i := by have q := EG12.2.2.2.1; rwa [q_v51] at q
  have D_v46 : Dy v46 (n6.toInt * n4.toInt) i := by have q := EG20.2.2.2.1; rwa [q_v46] at q
  have D_v47 : Dy v47 (n6.toInt * n5.toInt) i := by have q := EG21.2.2.2.1; rwa [q_v47] at q
  have D_v48 : Dy v48 (n6.toInt * n6.toInt) i := by have q := EG22.2.2.2.1; rwa [q_v48] at q
  refine own_aload X45 hx hby rfl rfl at_183 (pc' := 185) rfl ?_
  refine own_lload X45 hx hby rfl at_185 (pc' := 187) rfl ?_
  obtain ⟨v55, q_v55⟩ : ∃ z : UInt64, (FP.l2d n7) = z := ⟨_, rfl⟩
  have B_n7 := own_s16 q_n7
  have D_v55 : Dy v55 n7.toInt 0 := q_v55 ▸ dy_l2d (by omega) (by omega)
  refine own_l2d X45 hx hby q_v55 at_187 (pc' := 188) rfl ?_
  refine own_lload X45 hx hby rfl at_188 (pc' := 190) rfl ?_
  obtain ⟨v56, q_v56⟩ : ∃ z : UInt64, (FP.l2d n8) = z := ⟨_, rfl⟩
  have B_n8 := own_s16 q_n8
  have D_v56 : Dy v56 n8.toInt 0 := q_v56 ▸ dy_l2d (by omega) (by omega)
  refine own_l2d X45 hx hby q_v56 at_190 (pc' := 191) rfl ?_
  have C00 := own_cell hj hi D_v42 D_v52 D_v55 D_v56 EH00.2.2.2.2 EG00.2.2.2.2 B_n7 B_n8
  have C01 := own_cell hj hi D_v43 D_v53 D_v55 D_v56 EH01.2.2.2.2 EG01.2.2.2.2 B_n7 B_n8
  have C02 := own_cell hj hi D_v44 D_v54 D_v55 D_v56 EH02.2.2.2.2 EG02.2.2.2.2 B_n7 B_n8
  have C10 := own_cell hj hi D_v39 D_v49 D_v55 D_v56 EH10.2.2.2.2 EG10.2.2.2.2 B_n7 B_n8
  have C11 := own_cell hj hi D_v40 D_v50 D_v55 D_v56 EH11.2.2.2.2 EG11.2.2.2.2 B_n7 B_n8
  have C12 := own_cell hj hi D_v41 D_v51 D_v55 D_v56 EH12.2.2.2.2 EG12.2.2.2.2 B_n7 B_n8
  have C20 := own_cell hj hi D_v36 D_v46 D_v55 D_v56 EH20.2.2.2.2 EG20.2.2.2.2 B_n7 B_n8
  have C21 := own_cell hj hi D_v37 D_v47 D_v55 D_v56 EH21.2.2.2.2 EG21.2.2.2.2 B_n7 B_n8
  have C22 := own_cell hj hi D_v38 D_v48 D_v55 D_v56 EH22.2.2.2.2 EG22.2.2.2.2 B_n7 B_n8
  refine own_virtual X45 hx hby hZ (y := (⟨"com/example/volts_to_velocity/voltstovelocity/ScoreNoise", "covariance", "(DD)[[D"⟩ : MethodName)) (y' := (⟨"com/example/volts_to_velocity/voltstovelocity/ScoreNoise", "covariance", "(DD)[[D"⟩ : MethodName)) (C := "com/example/volts_to_velocity/voltstovelocity/ScoreNoise") (rest := []) hown (hw _ (List.mem_of_getElem? (i := 30) rfl)) (hw _ (List.mem_of_getElem? (i := 31) rfl)) (notFace_of_selects (args := #[]) (mvT hZ (hw _ (List.mem_of_getElem? (i := 33) rfl)))) (hw _ (List.mem_of_getElem? (i := 33) rfl)) (hw _ (List.mem_of_getElem? (i := 32) rfl)) (hw _ (List.mem_of_getElem? (i := 34) rfl)) (hw _ (List.mem_of_getElem? (i := 4) rfl)) (by decide) (rm6 l Z a0 hw [] b33 v55 v56 b2_34 b2x_34 b2y_34 b2z_34 v42 v43 v44 v39 v40 v41 v36 v37 v38 b4_34 b4x_34 b4y_34 b4z_34 v52 v53 v54 v49 v50 v51 v46 v47 v48 h45 n0 Z0 F_b33_velocity V_b2_34 V_b2x_34 V_b2y_34 V_b2z_34 F_b33_voltage V_b4_34 V_b4x_34 V_b4y_34 V_b4z_34 C00.1 C00.2.1 C00.2.2.1 C01.1 C01.2.1 C01.2.2.1 C02.1 C02.2.1 C02.2.2.1 C10.1 C10.2.1 C10.2.2.1 C11.1 C11.2.1 C11.2.2.1 C12.1 C12.2.1 C12.2.2.1 C20.1 C20.2.1 C20.2.2.1 C21.1 C21.2.1 C21.2.2.1 C22.1 C22.2.1 C22.2.2.1) eH45 (by rw [hml]; rfl) (a := b33) E_b33 (argsL := [(.double v55), (.double v56)]) rfl (lenOf pd_3 rfl) rfl at_191 (pc' := 194) rfl (by decide) (W := 0) (Nat.le_of_eq rfl) (by decide) (by decide) (by decide) (fun T57 h57 Lc57 v57r X57 eH57 hQ57 => ?_)
  obtain ⟨b1_57, b1x_57, b1y_57, b1z_57, rfl, Nq57, Kq57, gq57_0, gq57_1, gq57_2, gq57_3, gq57_4, gq57_5, gq57_6, gq57_7, gq57_8, gq57_9, gq57_10, gq57_11, gq57_12, gq57_13, gq57_14, gq57_15, gq57_16, gq57_17⟩ := hQ57
  have N57 := Fr.app N45 Nq57
  have g_b1_57 : n0 ≤ b1_57 := Nat.le_trans Z0 gq57_0
  have ne_b11_b1_57 : b11 ≠ b1_57 := Nat.ne_of_lt (Nat.lt_of_lt_of_le E_b11.lt gq57_0)
  have ne_b18_b1_57 : b18 ≠ b1_57 := Nat.ne_of_lt (Nat.lt_of_lt_of_le E_b18.lt gq57_0)
  have ne_b25_b1_57 : b25 ≠ b1_57 := Nat.ne_of_lt (Nat.lt_of_lt_of_le E_b25.lt gq57_0)
  have ne_b29_b1_57 : b29 ≠ b1_57 := Nat.ne_of_lt (Nat.lt_of_lt_of_le E_b29.lt gq57_0)
  have ne_b33_b1_57 : b33 ≠ b1_57 := Nat.ne_of_lt (Nat.lt_of_lt_of_le E_b33.lt gq57_0)
  have ne_b2_34_b1_57 : b2_34 ≠ b1_57 := Nat.ne_of_lt (Nat.lt_of_lt_of_le E_b2_34.lt gq57_0)
  have ne_b2x_34_b1_57 : b2x_34 ≠ b1_57 := Nat.ne_of_lt (Nat.lt_of_lt_of_le E_b2x_34.lt gq57_0)
  have ne_b2y_34_b1_57 : b2y_34 ≠ b1_57 := Nat.ne_of_lt (Nat.lt_of_lt_of_le E_b2y_34.lt gq57_0)
  have ne_b2z_34_b1_57 : b2z_34 ≠ b1_57 := Nat.ne_of_lt (Nat.lt_of_lt_of_le E_b2z_34.lt gq57_0)
  have ne_b4_34_b1_57 : b4_34 ≠ b1_57 := Nat.ne_of_lt (Nat.lt_of_lt_of_le E_b4_34.lt gq57_0)
  have ne_b4x_34_b1_57 : b4x_34 ≠ b1_57 := Nat.ne_of_lt (Nat.lt_of_lt_of_le E_b4x_34.lt gq57_0)
  have ne_b4y_34_b1_57 : b4y_34 ≠ b1_57 := Nat.ne_of_lt (Nat.lt_of_lt_of_le E_b4y_34.lt gq57_0)
  have ne_b4z_34_b1_57 : b4z_34 ≠ b1_57 := Nat.ne_of_lt (Nat.lt_of_lt_of_le E_b4z_34.lt gq57_0)
  have g_b1x_57 : n0 ≤ b1x_57 := Nat.le_trans Z0 gq57_1
  have ne_b11_b1x_57 : b11 ≠ b1x_57 := Nat.ne_of_lt (Nat.lt_of_lt_of_le E_b11.lt gq57_1)
  have ne_b18_b1x_57 : b18 ≠ b1x_57 := Nat.ne_of_lt (Nat.lt_of_lt_of_le E_b18.lt gq57_1)
  have ne_b25_b1x_57 : b25 ≠ b1x_57 := Nat.ne_of_lt (Nat.lt_of_lt_of_le E_b25.lt gq57_1)
  have ne_b29_b1x_57 : b29 ≠ b1x_57 := Nat.ne_of_lt (Nat.lt_of_lt_of_le E_b29.lt gq57_1)
  have ne_b33_b1x_57 : b33 ≠ b1x_57 := Nat.ne_of_lt (Nat.lt_of_lt_of_le E_b33.lt gq57_1)
  have ne_b2_34_b1x_57 : b2_34 ≠ b1x_57 := Nat.ne_of_lt (Nat.lt_of_lt_of_le E_b2_34.lt gq57_1)
  have ne_b2x_34_b1x_57 : b2x_34 ≠ b1x_57 := Nat.ne_of_lt (Nat.lt_of_lt_of_le E_b2x_34.lt gq57_1)
  have ne_b2y_34_b1x_57 : b2y_34 ≠ b1x_57 := Nat.ne_of_lt (Nat.lt_of_lt_of_le E_b2y_34.lt gq57_1)
  have ne_b2z_34_b1x_57 : b2z_34 ≠ b1x_57 := Nat.ne_of_lt (Nat.lt_of_lt_of_le E_b2z_34.lt gq57_1)
  have ne_b4_34_b1x_57 : b4_34 ≠ b1x_57 := Nat.ne_of_lt (Nat.lt_of_lt_of_le E_b4_34.lt gq57_1)
  have ne_b4x_34_b1x_57 : b4x_34 ≠ b1x_57 := Nat.ne_of_lt (Nat.lt_of_lt_of_le E_b4x_34.lt gq57_1)
  have ne_b4y_34_b1x_57 : b4y_34 ≠ b1x_57 := Nat.ne_of_lt (Nat.lt_of_lt_of_le E_b4y_34.lt gq57_1)
  have ne_b4z_34_b1x_57 : b4z_34 ≠ b1x_57 := Nat.ne_of_lt (Nat.lt_of_lt_of_le E_b4z_34.lt gq57_1)
  have g_b1y_57 : n0 ≤ b1y_57 := Nat.le_trans Z0 gq57_2
  have ne_b11_b1y_57 : b11 ≠ b1y_57 := Nat.ne_of_lt (Nat.lt_of_lt_of_le E_b11.lt gq57_2)
  have ne_b18_b1y_57 : b18 ≠ b1y_57 := Nat.ne_of_lt (Nat.lt_of_lt_of_le E_b18.lt gq57_2)
  have ne_b25_b1y_57 : b25 ≠ b1y_57 := Nat.ne_of_lt (Nat.lt_of_lt_of_le E_b25.lt gq57_2)
  have ne_b29_b1y_57 : b29 ≠ b1y_57 := Nat.ne_of_lt (Nat.lt_of_lt_of_le E_b29.lt gq57_2)
  have ne_b33_b1y_57 : b33 ≠ b1y_57 := Nat.ne_of_lt (Nat.lt_of_lt_of_le E_b33.lt gq57_2)
  have ne_b2_34_b1y_57 : b2_34 ≠ b1y_57 := Nat.ne_of_lt (Nat.lt_of_lt_of_le E_b2_34.lt gq57_2)
  have ne_b2x_34_b1y_57 : b2x_34 ≠ b1y_57 := Nat.ne_of_lt (Nat.lt_of_lt_of_le E_b2x_34.lt gq57_2)
  have ne_b2y_34_b1y_57 : b2y_34 ≠ b1y_57 := Nat.ne_of_lt (Nat.lt_of_lt_of_le E_b2y_34.lt gq57_2)
  have ne_b2z_34_b1y_57 : b2z_34 ≠ b1y_57 := Nat.ne_of_lt (Nat.lt_of_lt_of_le E_b2z_34.lt gq57_2)
  have ne_b4_34_b1y_57 : b4_34 ≠ b1y_57 := Nat.ne_of_lt (Nat.lt_of_lt_of_le E_b4_34.lt gq57_2)
  have ne_b4x_34_b1y_57 : b4x_34 ≠ b1y_57 := Nat.ne_of_lt (Nat.lt_of_lt_of_le E_b4x_34.lt gq57_2)
  have ne_b4y_34_b1y_57 : b4y_34 ≠ b1y_57 := Nat.ne_of_lt (Nat.lt_of_lt_of_le E_b4y_34.lt gq57_2)
  have ne_b4z_34_b1y_57 : b4z_34 ≠ b1y_57 := Nat.ne_of_lt (Nat.lt_of_lt_of_le E_b4z_34.lt gq57_2)
  have g_b1z_57 : n0 ≤ b1z_57 := Nat.le_trans Z0 gq57_3
  have ne_b11_b1z_57 : b11 ≠ b1z_57 := Nat.ne_of_lt (Nat.lt_of_lt_of_le E_b11.lt gq57_3)
  have ne_b18_b1z_57 : b18 ≠ b1z_57 := Nat.ne_of_lt (Nat.lt_of_lt_of_le E_b18.lt gq57_3)
  have ne_b25_b1z_57 : b25 ≠ b1z_57 := Nat.ne_of_lt (Nat.lt_of_lt_of_le E_b25.lt gq57_3)
  have ne_b29_b1z_57 : b29 ≠ b1z_57 := Nat.ne_of_lt (Nat.lt_of_lt_of_le E_b29.lt gq57_3)
  have ne_b33_b1z_57 : b33 ≠ b1z_57 := Nat.ne_of_lt (Nat.lt_of_lt_of_le E_b33.lt gq57_3)
  have ne_b2_34_b1z_57 : b2_34 ≠ b1z_57 := Nat.ne_of_lt (Nat.lt_of_lt_of_le E_b2_34.lt gq57_3)
  have ne_b2x_34_b1z_57 : b2x_34 ≠ b1z_57 := Nat.ne_of_lt (Nat.lt_of_lt_of_le E_b2x_34.lt gq57_3)
  have ne_b2y_34_b1z_57 : b2y_34 ≠ b1z_57 := Nat.ne_of_lt (Nat.lt_of_lt_of_le E_b2y_34.lt gq57_3)
  have ne_b2z_34_b1z_57 : b2z_34 ≠ b1z_57 := Nat.ne_of_lt (Nat.lt_of_lt_of_le E_b2z_34.lt gq57_3)
  have ne_b4_34_b1z_57 : b4_34 ≠ b1z_57 := Nat.ne_of_lt (Nat.lt_of_lt_of_le E_b4_34.lt gq57_3)
  have ne_b4x_34_b1z_57 : b4x_34 ≠ b1z_57 := Nat.ne_of_lt (Nat.lt_of_lt_of_le E_b4x_34.lt gq57_3)
  have ne_b4y_34_b1z_57 : b4y_34 ≠ b1z_57 := Nat.ne_of_lt (Nat.lt_of_lt_of_le E_b4y_34.lt gq57_3)
  have ne_b4z_34_b1z_57 : b4z_34 ≠ b1z_57 := Nat.ne_of_lt (Nat.lt_of_lt_of_le E_b4z_34.lt gq57_3)
  replace E_b11 := E_b11.keep Kq57
  replace V_b11 := V_b11.keep Kq57 nin0
  replace E_b18 := E_b18.keep Kq57
  replace V_b18 := V_b18.keep Kq57 nin0
  replace E_b25 := E_b25.keep Kq57
  replace V_b25 := V_b25.keep Kq57 nin0
  replace E_b29 := E_b29.keep Kq57
  replace V_b29 := V_b29.keep Kq57 nin0
  replace E_b33 := E_b33.keep Kq57
  replace F_b33_velocity := F_b33_velocity.keep Kq57 nin0
  replace F_b33_voltage := F_b33_voltage.keep Kq57 nin0
  replace E_b2_34 := E_b2_34.keep Kq57
  replace V_b2_34 := V_b2_34.keep Kq57 nin0
  replace E_b2x_34 := E_b2x_34.keep Kq57
  replace V_b2x_34 := V_b2x_34.keep Kq57 nin0
  replace E_b2y_34 := E_b2y_34.keep Kq57
  replace V_b2y_34 := V_b2y_34.keep Kq57 nin0
  replace E_b2z_34 := E_b2z_34.keep Kq57
  replace V_b2z_34 := V_b2z_34.keep Kq57 nin0
  replace E_b4_34 := E_b4_34.keep Kq57
  replace V_b4_34 := V_b4_34.keep Kq57 nin0
  replace E_b4x_34 := E_b4x_34.keep Kq57
  replace V_b4x_34 := V_b4x_34.keep Kq57 nin0
  replace E_b4y_34 := E_b4y_34.keep Kq57
  replace V_b4y_34 := V_b4y_34.keep Kq57 nin0
  replace E_b4z_34 := E_b4z_34.keep Kq57
  replace V_b4z_34 := V_b4z_34.keep Kq57 nin0
  have ne_b1_57_b1x_57 := gq57_4
  have ne_b1_57_b1y_57 := gq57_5
  have ne_b1_57_b1z_57 := gq57_6
  have ne_b1x_57_b1y_57 := gq57_7
  have ne_b1x_57_b1z_57 := gq57_8
  have ne_b1y_57_b1z_57 := gq57_9
  have E_b1_57 := gq57_10
  have V_b1_57 := gq57_11
  have E_b1x_57 := gq57_12
  obtain ⟨v58, q_v58⟩ : ∃ z : UInt64, (FP.dadd (FP.dmul v55 v42) (FP.dmul v56 v52)) = z := ⟨_, rfl⟩
  obtain ⟨v59, q_v59⟩ : ∃ z : UInt64, (FP.dadd (FP.dmul v55 v43) (FP.dmul v56 v53)) = z := ⟨_, rfl⟩
  obtain ⟨v60, q_v60⟩ : ∃ z : UInt64, (FP.dadd (FP.dmul v55 v44) (FP.dmul v56 v54)) = z := ⟨_, rfl⟩
  have V_b1x_57 : Ary tr Z h57 b1x_57 .double [(.double v58), (.double v59), (.double v60)] := by rw [← q_v58, ← q_v59, ← q_v60]; exact gq57_13
  have E_b1y_57 := gq57_14
  obtain ⟨v61, q_v61⟩ : ∃ z : UInt64, (FP.dadd (FP.dmul v55 v39) (FP.dmul v56 v49)) = z := ⟨_, rfl⟩
  obtain ⟨v62, q_v62⟩ : ∃ z : UInt64, (FP.dadd (FP.dmul v55 v40) (FP.dmul v56 v50)) = z := ⟨_, rfl⟩
  obtain ⟨v63, q_v63⟩ : ∃ z : UInt64, (FP.dadd (FP.dmul v55 v41) (FP.dmul v56 v51)) = z := ⟨_, rfl⟩
  have V_b1y_57 : Ary tr Z h57 b1y_57 .double [(.double v61), (.double v62), (.double v63)] := by rw [← q_v61, ← q_v62, ← q_v63]; exact gq57_15
  have E_b1z_57 := gq57_16
  obtain ⟨v64, q_v64⟩ : ∃ z : UInt64, (FP.dadd (FP.dmul v55 v36) (FP.dmul v56 v46)) = z := ⟨_, rfl⟩
  obtain ⟨v65, q_v65⟩ : ∃ z : UInt64, (FP.dadd (FP.dmul v55 v37) (FP.dmul v56 v47)) = z := ⟨_, rfl⟩
  obtain ⟨v66, q_v66⟩ : ∃ z : UInt64, (FP.dadd (FP.dmul v55 v38) (FP.dmul v56 v48)) = z := ⟨_, rfl⟩
  have V_b1z_57 : Ary tr Z h57 b1z_57 .double [(.double v64), (.double v65), (.double v66)] := by rw [← q_v64, ← q_v65, ← q_v66]; exact gq57_17
  replace Z0 := Nat.le_trans Z0 Kq57.1
  refine own_astore X57 hx hby rfl (L' := #[.val (.int p0), .val (.int p1), .val (.int p2), .val (.int p3), .val (.int p4), .val (.long n1), .second, .val (.long n2), .second, .val (.long n3), .second, .val (.long n4), .second, .val (.long n5), .second, .val (.long n6), .second, .val (.long n7), .second, .val (.long n8), .second, .val (.int n9), .val (.int n10), .val (.ref b11), .val (.ref b18), .val (.ref b25), .val (.ref b29), .val (.ref b33), .val (.ref b1_57)]) rfl at_194 (pc' := 196) rfl ?_
  have DC00 := C00.2.2.2.1
  rw [q_v58] at DC00
  have DC01 := C01.2.2.2.1
  rw [q_v59] at DC01
  have DC02 := C02.2.2.2.1
  rw [q_v60] at DC02
  have DC10 := C10.2.2.2.1
  rw [q_v61] at DC10
  have DC11 := C11.2.2.2.1
  rw [q_v62] at DC11
  have DC12 := C12.2.2.2.1
  rw [q_v63] at DC12
  have DC20 := C20.2.2.2.1
  rw [q_v64] at DC20
  have DC21 := C21.2.2.2.1
  rw [q_v65] at DC21
  have DC22 := C22.2.2.2.1
  rw [q_v66] at DC22
  refine own_aload X57 hx hby rfl rfl at_196 (pc' := 198) rfl ?_
  refine own_ifnullF X57 hx hby at_198 (pc' := 201) rfl ?_
  refine own_aload X57 hx hby rfl rfl at_201 (pc' := 203) rfl ?_
  refine own_alen X57 hx hby hZ eH57 V_b1_57 (z := (3 : Int32)) (by first | rfl | decide) at_203 (pc' := 204) rfl ?_
  refine own_iconst X57 hx hby (v := (3 : Int32)) (by decide) at_204 (pc' := 205) rfl ?_
  refine own_icT X57 hx hby at_205 (by decide) (by decide) (pc' := 210) (by decide) ?_
  refine own_aload X57 hx hby rfl rfl at_210 (pc' := 212) rfl ?_
  refine own_iconst X57 hx hby (v := (0 : Int32)) (by decide) at_212 (pc' := 213) rfl ?_
  refine own_aaload X57 hx hby hZ eH57 V_b1_57 rfl (by decide) (v := (.ref b1x_57)) rfl at_213 (pc' := 214) rfl ?_
  refine own_ifnullF X57 hx hby at_214 (pc' := 217) rfl ?_
  refine own_aload X57 hx hby rfl rfl at_217 (pc' := 219) rfl ?_
  refine own_iconst X57 hx hby (v := (1 : Int32)) (by decide) at_219 (pc' := 220) rfl ?_
  refine own_aaload X57 hx hby hZ eH57 V_b1_57 rfl (by decide) (v := (.ref b1y_57)) rfl at_220 (pc' := 221) rfl ?_
  refine own_ifnullF X57 hx hby at_221 (pc' := 224) rfl ?_
  refine own_aload X57 hx hby rfl rfl at_224 (pc' := 226) rfl ?_
  refine own_iconst X57 hx hby (v := (2 : Int32)) (by decide) at_226 (pc' := 227) rfl ?_
  refine own_aaload X57 hx hby hZ eH57 V_b1_57 rfl (by decide) (v := (.ref b1z_57)) rfl at_227 (pc' := 228) rfl ?_
  refine own_ifnonnullT X57 hx hby at_228 (by decide) (pc' := 233) (by decide) ?_
  refine own_aload X57 hx hby rfl rfl at_233 (pc' := 235) rfl ?_
  refine own_iconst X57 hx hby (v := (0 : Int32)) (by decide) at_235 (pc' := 236) rfl ?_
  refine own_aaload X57 hx hby hZ eH57 V_b1_57 rfl (by decide) (v := (.ref b1x_57)) rfl at_236 (pc' := 237) rfl ?_
  refine own_alen X57 hx hby hZ eH57 V_b1x_57 (z := (3 : Int32)) (by first | rfl | decide) at_237 (pc' := 238) rfl ?_
  refine own_iconst X57 hx hby (v := (3 : Int32)) (by decide) at_238 (pc' := 239) rfl ?_
  refine own_icF X57 hx hby at_239 (by decide) (pc' := 242) rfl ?_
  refine own_aload X57 hx hby rfl rfl at_242 (pc' := 244) rfl ?_
  refine own_iconst X57 hx hby (v := (1 : Int32)) (by decide) at_244 (pc' := 245) rfl ?_
  refine own_aaload X57 hx hby hZ eH57 V_b1_57 rfl (by decide) (v := (.ref b1y_57)) rfl at_245 (pc' := 246) rfl ?_
  refine own_alen X57 hx hby hZ eH57 V_b1y_57 (z := (3 : Int32)) (by first | rfl | decide) at_246 (pc' := 247) rfl ?_
  refine own_iconst X57 hx hby (v := (3 : Int32)) (by decide) at_247 (pc' := 248) rfl ?_
  refine own_icF X57 hx hby at_248 (by decide) (pc' := 251) rfl ?_
  refine own_aload X57 hx hby rfl rfl at_251 (pc' := 253) rfl ?_
  refine own_iconst X57 hx hby (v := (2 : Int32)) (by decide) at_253 (pc' := 254) rfl ?_
  refine own_aaload X57 hx hby hZ eH57 V_b1_57 rfl (by decide) (v := (.ref b1z_57)) rfl at_254 (pc' := 255) rfl ?_
  refine own_alen X57 hx hby hZ eH57 V_b1z_57 (z := (3 : Int32)) (by first | rfl | decide) at_255 (pc' := 256) rfl ?_
  refine own_iconst X57 hx hby (v := (3 : Int32)) (by decide) at_256 (pc' := 257) rfl ?_
  refine own_icT X57 hx hby at_257 (by decide) (by decide) (pc' := 262) (by decide) ?_
  refine own_aload X57 hx hby rfl rfl at_262 (pc' := 264) rfl ?_
  refine own_aload X57 hx hby rfl rfl at_264 (pc' := 266) rfl ?_
  refine own_aload X57 hx hby rfl rfl at_266 (pc' := 268) rfl ?_
  refine own_lload X57 hx hby rfl at_268 (pc' := 270) rfl ?_
  refine own_lload X57 hx hby rfl at_270 (pc' := 272) rfl ?_
  refine own_iload X57 hx hby rfl at_272 (pc' := 274) rfl ?_
  refine own_iload X57 hx hby rfl at_274 (pc' := 276) rfl ?_
  refine own_iconst X57 hx hby (v := (0 : Int32)) (by decide) at_276 (pc' := 277) rfl ?_
  refine own_iconst X57 hx hby (v := (0 : Int32)) (by decide) at_277 (pc' := 278) rfl ?_
  refine own_static X57 hx hby hZ (y := (⟨"com/example/volts_to_velocity/voltstovelocity/ScoreNoiseCovariancePinLaw", "ok", "([[D[J[JJJIIII)Z"⟩ : MethodName)) (rest := []) hown (hw _ (List.mem_of_getElem? (i := 35) rfl)) (hw _ (List.mem_of_getElem? (i := 36) rfl)) (hw _ (List.mem_of_getElem? (i := 38) rfl)) (hw _ (List.mem_of_getElem? (i := 37) rfl)) (by decide) (rm700 l Z a0 hw [] b1_57 b25 b29 n7 n8 n9 n10 b1x_57 b1y_57 b1z_57 v58 v59 v60 v61 v62 v63 v64 v65 v66 n1 n2 n3 n4 n5 n6 h57 n0 Z0 V_b1_57 V_b1x_57 V_b1y_57 V_b1z_57 V_b25 V_b29 (own_okp hj hi er es DC00 C00.2.2.2.2).nn) eH57 (by rw [hml]; rfl) (argsL := [(.ref b1_57), (.ref b25), (.ref b29), (.long n7), (.long n8), (.int n9), (.int n10), (.int (0 : Int32)), (.int (0 : Int32))]) rfl (lenOf pd_4 rfl) rfl at_278 (pc' := 281) rfl (by decide) (W := 0) (Nat.le_of_eq rfl) (by decide) (by decide) (by decide) (fun T67 h67 Lc67 v67r X67 eH67 hQ67 => ?_)
  obtain ⟨rfl, Nq67, rfl⟩ := hQ67
  have N67 := Fr.app N57 Nq67
  dsimp only [Option.toList, List.cons_append, List.nil_append]
  generalize q_r68 : (if deq (FP.dmul v58 (FP.i2d (n9 * n10))) (FP.l2d ((((n7 * n1) * n1) * (n10.toInt64)) + (((n8 * n4) * n4) * (n9.toInt64)))) then (1 : Int32) else (0 : Int32)) = r68
  have hk69 : ¬ (r68 = 0) := own_okd hj hi er es DC00 C00.2.2.2.2 (own_exp hj hi er es B_n7 B_n8 B_n1 B_n1 B_n4 B_n4) q_r68
  refine own_ifF X67 hx hby at_281 (own_i0_eq_n hk69) (pc' := 284) rfl ?_
  refine own_aload X67 hx hby rfl rfl at_284 (pc' := 286) rfl ?_
  refine own_aload X67 hx hby rfl rfl at_286 (pc' := 288) rfl ?_
  refine own_aload X67 hx hby rfl rfl at_288 (pc' := 290) rfl ?_
  refine own_lload X67 hx hby rfl at_290 (pc' := 292) rfl ?_
  refine own_lload X67 hx hby rfl at_292 (pc' := 294) rfl ?_
  refine own_iload X67 hx hby rfl at_294 (pc' := 296) rfl ?_
  refine own_iload X67 hx hby rfl at_296 (pc' := 298) rfl ?_
  refine own_iconst X67 hx hby (v := (0 : Int32)) (by decide) at_298 (pc' := 299) rfl ?_
  refine own_iconst X67 hx hby (v := (1 : Int32)) (by decide) at_299 (pc' := 300) rfl ?_
  refine own_static X67 hx hby hZ (y := (⟨"com/example/volts_to_velocity/voltstovelocity/ScoreNoiseCovariancePinLaw", "ok", "([[D[J[JJJIIII)Z"⟩ : MethodName)) (rest := []) hown (hw _ (List.mem_of_getElem? (i := 35) rfl)) (hw _ (List.mem_of_getElem? (i := 36) rfl)) (hw _ (List.mem_of_getElem? (i := 38) rfl)) (hw _ (List.mem_of_getElem? (i := 37) rfl)) (by decide) (rm701 l Z a0 hw [] b1_57 b25 b29 n7 n8 n9 n10 b1x_57 b1y_57 b1z_57 v58 v59 v60 v61 v62 v63 v64 v65 v66 n1 n2 n3 n4 n5 n6 h57 n0 Z0 V_b1_57 V_b1x_57 V_b1y_57 V_b1z_57 V_b25 V_b29 (own_okp hj hi er es DC01 C01.2.2.2.2).nn) eH67 (by rw [hml]; rfl) (argsL := [(.ref b1_57), (.ref b25), (.ref b29), (.long n7), (.long n8), (.int n9), (.int n10), (.int (0 : Int32)), (.int (1 : Int32))]) rfl (lenOf pd_4 rfl) rfl at_300 (pc' := 303) rfl (by decide) (W := 0) (Nat.le_of_eq rfl) (by decide) (by decide) (by decide) (fun T70 h70 Lc70 v70r X70 eH70 hQ70 => ?_)
  obtain ⟨rfl, Nq70, rfl⟩ := hQ70
  have N70 := Fr.app N67 Nq70
  dsimp only [Option.toList, List.cons_append, List.nil_append]
  generalize q_r71 : (if deq (FP.dmul v59 (FP.i2d (n9 * n10))) (FP.l2d ((((n7 * n1) * n2) * (n10.toInt64)) + (((n8 * n4) * n5) * (n9.toInt64)))) then (1 : Int32) else (0 : Int32)) = r71
  have hk72 : ¬ (r71 = 0) := own_okd hj hi er es DC01 C01.2.2.2.2 (own_exp hj hi er es B_n7 B_n8 B_n1 B_n2 B_n4 B_n5) q_r71
  refine own_ifF X70 hx hby at_303 (own_i0_eq_n hk72) (pc' := 306) rfl ?_
  refine own_aload X70 hx hby rfl rfl at_306 (pc' := 308) rfl ?_
  refine own_aload X70 hx hby rfl rfl at_308 (pc' := 310) rfl ?_
  refine own_aload X70 hx hby rfl rfl at_310 (pc' := 312) rfl ?_
  refine own_lload X70 hx hby rfl at_312 (pc' := 314) rfl ?_
  refine own_lload X70 hx hby rfl at_314 (pc' := 316) rfl ?_
  refine own_iload X70 hx hby rfl at_316 (pc' := 318) rfl ?_
  refine own_iload X70 hx hby rfl at_318 (pc' := 320) rfl ?_
  refine own_iconst X70 hx hby (v := (0 : Int32)) (by decide) at_320 (pc' := 321) rfl ?_
  refine own_iconst X70 hx hby (v := (2 : Int32)) (by decide) at_321 (pc' := 322) rfl ?_
  refine own_static X70 hx hby hZ (y := (⟨"com/example/volts_to_velocity/voltstovelocity/ScoreNoiseCovariancePinLaw", "ok", "([[D[J[JJJIIII)Z"⟩ : MethodName)) (rest := []) hown (hw _ (List.mem_of_getElem? (i := 35) rfl)) (hw _ (List.mem_of_getElem? (i := 36) rfl)) (hw _ (List.mem_of_getElem? (i := 38) rfl)) (hw _ (List.mem_of_getElem? (i := 37) rfl)) (by decide) (rm702 l Z a0 hw [] b1_57 b25 b29 n7 n8 n9 n10 b1x_57 b1y_57 b1z_57 v58 v59 v60 v61 v62 v63 v64 v65 v66 n1 n2 n3 n4 n5 n6 h57 n0 Z0 V_b1_57 V_b1x_57 V_b1y_57 V_b1z_57 V_b25 V_b29 (own_okp hj hi er es DC02 C02.2.2.2.2).nn) eH70 (by rw [hml]; rfl) (argsL := [(.ref b1_57), (.ref b25), (.ref b29), (.long n7), (.long n8), (.int n9), (.int n10), (.int (0 : Int32)), (.int (2 : Int32))]) rfl (lenOf pd_4 rfl) rfl at_322 (pc' := 325) rfl (by decide) (W := 0) (Nat.le_of_eq rfl) (by decide) (by decide) (by decide) (fun T73 h73 Lc73 v73r X73 eH73 hQ73 => ?_)
  obtain ⟨rfl, Nq73, rfl⟩ := hQ73
  have N73 := Fr.app N70 Nq73
  dsimp only [Option.toList, List.cons_append, List.nil_append]
  generalize q_r74 : (if deq (FP.dmul v60 (FP.i2d (n9 * n10))) (FP.l2d ((((n7 * n1) * n3) * (n10.toInt64)) + (((n8 * n4) * n6) * (n9.toInt64)))) then (1 : Int32) else (0 : Int32)) = r74
  have hk75 : ¬ (r74 = 0) := own_okd hj hi er es DC02 C02.2.2.2.2 (own_exp hj hi er es B_n7 B_n8 B_n1 B_n3 B_n4 B_n6) q_r74
  refine own_ifF X73 hx hby at_325 (own_i0_eq_n hk75) (pc' := 328) rfl ?_
  refine own_aload X73 hx hby rfl rfl at_328 (pc' := 330) rfl ?_
  refine own_aload X73 hx hby rfl rfl at_330 (pc' := 332) rfl ?_
  refine own_aload X73 hx hby rfl rfl at_332 (pc' := 334) rfl ?_
  refine own_lload X73 hx hby rfl at_334 (pc' := 336) rfl ?_
  refine own_lload X73 hx hby rfl at_336 (pc' := 338) rfl ?_
  refine own_iload X73 hx hby rfl at_338 (pc' := 340) rfl ?_
  refine own_iload X73 hx hby rfl at_340 (pc' := 342) rfl ?_
  refine own_iconst X73 hx hby (v := (1 : Int32)) (by decide) at_342 (pc' := 343) rfl ?_
  refine own_iconst X73 hx hby (v := (0 : Int32)) (by decide) at_343 (pc' := 344) rfl ?_
  refine own_static X73 hx hby hZ (y := (⟨"com/example/volts_to_velocity/voltstovelocity/ScoreNoiseCovariancePinLaw", "ok", "([[D[J[JJJIIII)Z"⟩ : MethodName)) (rest := []) hown (hw _ (List.mem_of_getElem? (i := 35) rfl)) (hw _ (List.mem_of_getElem? (i := 36) rfl)) (hw _ (List.mem_of_getElem? (i := 38) rfl)) (hw _ (List.mem_of_getElem? (i := 37) rfl)) (by decide) (rm710 l Z a0 hw [] b1_57 b25 b29 n7 n8 n9 n10 b1x_57 b1y_57 b1z_57 v58 v59 v60 v61 v62 v63 v64 v65 v66 n1 n2 n3 n4 n5 n6 h57 n0 Z0 V_b1_57 V_b1x_57 V_b1y_57 V_b1z_57 V_b25 V_b29 (own_okp hj hi er es DC10 C10.2.2.2.2).nn) eH73 (by rw [hml]; rfl) (argsL := [(.ref b1_57), (.ref b25), (.ref b29), (.long n7), (.long n8), (.int n9), (.int n10), (.int (1 : Int32)), (.int (0 : Int32))]) rfl (lenOf pd_4 rfl) rfl at_344 (pc' := 347) rfl (by decide) (W := 0) (Nat.le_of_eq rfl) (by decide) (by decide) (by decide) (fun T76 h76 Lc76 v76r X76 eH76 hQ76 => ?_)
  obtain ⟨rfl, Nq76, rfl⟩ := hQ76
  have N76 := Fr.app N73 Nq76
  dsimp only [Option.toList, List.cons_append, List.nil_append]
  generalize q_r77 : (if deq (FP.dmul v61 (FP.i2d (n9 * n10))) (FP.l2d ((((n7 * n2) * n1) * (n10.toInt64)) + (((n8 * n5) * n4) * (n9.toInt64)))) then (1 : Int32) else (0 : Int32)) = r77
  have hk78 : ¬ (r77 = 0) := own_okd hj hi er es DC10 C10.2.2.2.2 (own_exp hj hi er es B_n7 B_n8 B_n2 B_n1 B_n5 B_n4) q_r77
  refine own_ifF X76 hx hby at_347 (own_i0_eq_n hk78) (pc' := 350) rfl ?_
  refine own_aload X76 hx hby rfl rfl at_350 (pc' := 352) rfl ?_
  refine own_aload X76 hx hby rfl rfl at_352 (pc' := 354) rfl ?_
  refine own_aload X76 hx hby rfl rfl at_354 (pc' := 356) rfl ?_
  refine own_lload X76 hx hby rfl at_356 (pc' := 358) rfl ?_
  refine own_lload X76 hx hby rfl at_358 (pc' := 360) rfl ?_
  refine own_iload X76 hx hby rfl at_360 (pc' := 362) rfl ?_
  refine own_iload X76 hx hby rfl at_362 (pc' := 364) rfl ?_
  refine own_iconst X76 hx hby (v := (1 : Int32)) (by decide) at_364 (pc' := 365) rfl ?_
  refine own_iconst X76 hx hby (v := (1 : Int32)) (by decide) at_365 (pc' := 366) rfl ?_
  refine own_static X76 hx hby hZ (y := (⟨"com/example/volts_to_velocity/voltstovelocity/ScoreNoiseCovariancePinLaw", "ok", "([[D[J[JJJIIII)Z"⟩ : MethodName)) (rest := []) hown (hw _ (List.mem_of_getElem? (i := 35) rfl)) (hw _ (List.mem_of_getElem? (i := 36) rfl)) (hw _ (List.mem_of_getElem? (i := 38) rfl)) (hw _ (List.mem_of_getElem? (i := 37) rfl)) (by decide) (rm711 l Z a0 hw [] b1_57 b25 b29 n7 n8 n9 n10 b1x_57 b1y_57 b1z_57 v58 v59 v60 v61 v62 v63 v64 v65 v66 n1 n2 n3 n4 n5 n6 h57 n0 Z0 V_b1_57 V_b1x_57 V_b1y_57 V_b1z_57 V_b25 V_b29 (own_okp hj hi er es DC11 C11.2.2.2.2).nn) eH76 (by rw [hml]; rfl) (argsL := [(.ref b1_57), (.ref b25), (.ref b29), (.long n7), (.long n8), (.int n9), (.int n10), (.int (1 : Int32)), (.int (1 : Int32))]) rfl (lenOf pd_4 rfl) rfl at_366 (pc' := 369) rfl (by decide) (W := 0) (Nat.le_of_eq rfl) (by decide) (by decide) (by decide) (fun T79 h79 Lc79 v79r X79 eH79 hQ79 => ?_)
  obtain ⟨rfl, Nq79, rfl⟩ := hQ79
  have N79 := Fr.app N76 Nq79
  dsimp only [Option.toList, List.cons_append, List.nil_append]
  generalize q_r80 : (if deq (FP.dmul v62 (FP.i2d (n9 * n10))) (FP.l2d ((((n7 * n2) * n2) * (n10.toInt64)) + (((n8 * n5) * n5) * (n9.toInt64)))) then (1 : Int32) else (0 : Int32)) = r80
  have hk81 : ¬ (r80 = 0) := own_okd hj hi er es DC11 C11.2.2.2.2 (own_exp hj hi er es B_n7 B_n8 B_n2 B_n2 B_n5 B_n5) q_r80
  refine own_ifF X79 hx hby at_369 (own_i0_eq_n hk81) (pc' := 372) rfl ?_
  refine own_aload X79 hx hby rfl rfl at_372 (pc' := 374) rfl ?_
  refine own_aload X79 hx hby rfl rfl at_374 (pc' := 376) rfl ?_
  refine own_aload X79 hx hby rfl rfl at_376 (pc' := 378) rfl ?_
  refine own_lload X79 hx hby rfl at_378 (pc' := 380) rfl ?_
  refine own_lload X79 hx hby rfl at_380 (pc' := 382) rfl ?_
  refine own_iload X79 hx hby rfl at_382 (pc' := 384) rfl ?_
  refine own_iload X79 hx hby rfl at_384 (pc' := 386) rfl ?_
  refine own_iconst X79 hx hby (v := (1 : Int32)) (by decide) at_386 (pc' := 387) rfl ?_
  refine own_iconst X79 hx hby (v := (2 : Int32)) (by decide) at_387 (pc' := 388) rfl ?_
  refine own_static X79 hx hby hZ (y := (⟨"com/example/volts_to_velocity/voltstovelocity/ScoreNoiseCovariancePinLaw", "ok", "([[D[J[JJJIIII)Z"⟩ : MethodName)) (rest := []) hown (hw _ (List.mem_of_getElem? (i := 35) rfl)) (hw _ (List.mem_of_getElem? (i := 36) rfl)) (hw _ (List.mem_of_getElem? (i := 38) rfl)) (hw _ (List.mem_of_getElem? (i := 37) rfl)) (by decide) (rm712 l Z a0 hw [] b1_57 b25 b29 n7 n8 n9 n10 b1x_57 b1y_57 b1z_57 v58 v59 v60 v61 v62 v63 v64 v65 v66 n1 n2 n3 n4 n5 n6 h57 n0 Z0 V_b1_57 V_b1x_57 V_b1y_57 V_b1z_57 V_b25 V_b29 (own_okp hj hi er es DC12 C12.2.2.2.2).nn) eH79 (by rw [hml]; rfl) (argsL := [(.ref b1_57), (.ref b25), (.ref b29), (.long n7), (.long n8), (.int n9), (.int n10), (.int (1 : Int32)), (.int (2 : Int32))]) rfl (lenOf pd_4 rfl) rfl at_388 (pc' := 391) rfl (by decide) (W := 0) (Nat.le_of_eq rfl) (by decide) (by decide) (by decide) (fun T82 h82 Lc82 v82r X82 eH82 hQ82 => ?_)
  obtain ⟨rfl, Nq82, rfl⟩ := hQ82
  have N82 := Fr.app N79 Nq82
  dsimp only [Option.toList, List.cons_append, List.nil_append]
  generalize q_r83 : (if deq (FP.dmul v63 (FP.i2d (n9 * n10))) (FP.l2d ((((n7 * n2) * n3) * (n10.toInt64)) + (((n8 * n5) * n6) * (n9.toInt64)))) then (1 : Int32) else (0 : Int32)) = r83
  have hk84 : ¬ (r83 = 0) := own_okd hj hi er es DC12 C12.2.2.2.2 (own_exp hj hi er es B_n7 B_n8 B_n2 B_n3 B_n5 B_n6) q_r83
  refine own_ifF X82 hx hby at_391 (own_i0_eq_n hk84) (pc' := 394) rfl ?_
  refine own_aload X82 hx hby rfl rfl at_394 (pc' := 396) rfl ?_
  refine own_aload X82 hx hby rfl rfl at_396 (pc' := 398) rfl ?_
  refine own_aload X82 hx hby rfl rfl at_398 (pc' := 400) rfl ?_
  refine own_lload X82 hx hby rfl at_400 (pc' := 402) rfl ?_
  refine own_lload X82 hx hby rfl at_402 (pc' := 404) rfl ?_
  refine own_iload X82 hx hby rfl at_404 (pc' := 406) rfl ?_
  refine own_iload X82 hx hby rfl at_406 (pc' := 408) rfl ?_
  refine own_iconst X82 hx hby (v := (2 : Int32)) (by decide) at_408 (pc' := 409) rfl ?_
  refine own_iconst X82 hx hby (v := (0 : Int32)) (by decide) at_409 (pc' := 410) rfl ?_
  refine own_static X82 hx hby hZ (y := (⟨"com/example/volts_to_velocity/voltstovelocity/ScoreNoiseCovariancePinLaw", "ok", "([[D[J[JJJIIII)Z"⟩ : MethodName)) (rest := []) hown (hw _ (List.mem_of_getElem? (i := 35) rfl)) (hw _ (List.mem_of_getElem? (i := 36) rfl)) (hw _ (List.mem_of_getElem? (i := 38) rfl)) (hw _ (List.mem_of_getElem? (i := 37) rfl)) (by decide) (rm720 l Z a0 hw [] b1_57 b25 b29 n7 n8 n9 n10 b1x_57 b1y_57 b1z_57 v58 v59 v60 v61 v62 v63 v64 v65 v66 n1 n2 n3 n4 n5 n6 h57 n0 Z0 V_b1_57 V_b1x_57 V_b1y_57 V_b1z_57 V_b25 V_b29 (own_okp hj hi er es DC20 C20.2.2.2.2).nn) eH82 (by rw [hml]; rfl) (argsL := [(.ref b1_57), (.ref b25), (.ref b29), (.long n7), (.long n8), (.int n9), (.int n10), (.int (2 : Int32)), (.int (0 : Int32))]) rfl (lenOf pd_4 rfl) rfl at_410 (pc' := 413) rfl (by decide) (W := 0) (Nat.le_of_eq rfl) (by decide) (by decide) (by decide) (fun T85 h85 Lc85 v85r X85 eH85 hQ85 => ?_)
  obtain ⟨rfl, Nq85, rfl⟩ := hQ85
  have N85 := Fr.app N82 Nq85
  dsimp only [Option.toList, List.cons_append, List.nil_append]
  generalize q_r86 : (if deq (FP.dmul v64 (FP.i2d (n9 * n10))) (FP.l2d ((((n7 * n3) * n1) * (n10.toInt64)) + (((n8 * n6) * n4) * (n9.toInt64)))) then (1 : Int32) else (0 : Int32)) = r86
  have hk87 : ¬ (r86 = 0) := own_okd hj hi er es DC20 C20.2.2.2.2 (own_exp hj hi er es B_n7 B_n8 B_n3 B_n1 B_n6 B_n4) q_r86
  refine own_ifF X85 hx hby at_413 (own_i0_eq_n hk87) (pc' := 416) rfl ?_
  refine own_aload X85 hx hby rfl rfl at_416 (pc' := 418) rfl ?_
  refine own_aload X85 hx hby rfl rfl at_418 (pc' := 420) rfl ?_
  refine own_aload X85 hx hby rfl rfl at_420 (pc' := 422) rfl ?_
  refine own_lload X85 hx hby rfl at_422 (pc' := 424) rfl ?_
  refine own_lload X85 hx hby rfl at_424 (pc' := 426) rfl ?_
  refine own_iload X85 hx hby rfl at_426 (pc' := 428) rfl ?_
  refine own_iload X85 hx hby rfl at_428 (pc' := 430) rfl ?_
  refine own_iconst X85 hx hby (v := (2 : Int32)) (by decide) at_430 (pc' := 431) rfl ?_
  refine own_iconst X85 hx hby (v := (1 : Int32)) (by decide) at_431 (pc' := 432) rfl ?_
  refine own_static X85 hx hby hZ (y := (⟨"com/example/volts_to_velocity/voltstovelocity/ScoreNoiseCovariancePinLaw", "ok", "([[D[J[JJJIIII)Z"⟩ : MethodName)) (rest := []) hown (hw _ (List.mem_of_getElem? (i := 35) rfl)) (hw _ (List.mem_of_getElem? (i := 36) rfl)) (hw _ (List.mem_of_getElem? (i := 38) rfl)) (hw _ (List.mem_of_getElem? (i := 37) rfl)) (by decide) (rm721 l Z a0 hw [] b1_57 b25 b29 n7 n8 n9 n10 b1x_57 b1y_57 b1z_57 v58 v59 v60 v61 v62 v63 v64 v65 v66 n1 n2 n3 n4 n5 n6 h57 n0 Z0 V_b1_57 V_b1x_57 V_b1y_57 V_b1z_57 V_b25 V_b29 (own_okp hj hi er es DC21 C21.2.2.2.2).nn) eH85 (by rw [hml]; rfl) (argsL := [(.ref b1_57), (.ref b25), (.ref b29), (.long n7), (.long n8), (.int n9), (.int n10), (.int (2 : Int32)), (.int (1 : Int32))]) rfl (lenOf pd_4 rfl) rfl at_432 (pc' := 435) rfl (by decide) (W := 0) (Nat.le_of_eq rfl) (by decide) (by decide) (by decide) (fun T88 h88 Lc88 v88r X88 eH88 hQ88 => ?_)
  obtain ⟨rfl, Nq88, rfl⟩ := hQ88
  have N88 := Fr.app N85 Nq88
  dsimp only [Option.toList, List.cons_append, List.nil_append]
  generalize q_r89 : (if deq (FP.dmul v65 (FP.i2d (n9 * n10))) (FP.l2d ((((n7 * n3) * n2) * (n10.toInt64)) + (((n8 * n6) * n5) * (n9.toInt64)))) then (1 : Int32) else (0 : Int32)) = r89
  have hk90 : ¬ (r89 = 0) := own_okd hj hi er es DC21 C21.2.2.2.2 (own_exp hj hi er es B_n7 B_n8 B_n3 B_n2 B_n6 B_n5) q_r89
  refine own_ifF X88 hx hby at_435 (own_i0_eq_n hk90) (pc' := 438) rfl ?_
  refine own_aload X88 hx hby rfl rfl at_438 (pc' := 440) rfl ?_
  refine own_aload X88 hx hby rfl rfl at_440 (pc' := 442) rfl ?_
  refine own_aload X88 hx hby rfl rfl at_442 (pc' := 444) rfl ?_
  refine own_lload X88 hx hby rfl at_444 (pc' := 446) rfl ?_
  refine own_lload X88 hx hby rfl at_446 (pc' := 448) rfl ?_
  refine own_iload X88 hx hby rfl at_448 (pc' := 450) rfl ?_
  refine own_iload X88 hx hby rfl at_450 (pc' := 452) rfl ?_
  refine own_iconst X88 hx hby (v := (2 : Int32)) (by decide) at_452 (pc' := 453) rfl ?_
  refine own_iconst X88 hx hby (v := (2 : Int32)) (by decide) at_453 (pc' := 454) rfl ?_
  refine own_static X88 hx hby hZ (y := (⟨"com/example/volts_to_velocity/voltstovelocity/ScoreNoiseCovariancePinLaw", "ok", "([[D[J[JJJIIII)Z"⟩ : MethodName)) (rest := []) hown (hw _ (List.mem_of_getElem? (i := 35) rfl)) (hw _ (List.mem_of_getElem? (i := 36) rfl)) (hw _ (List.mem_of_getElem? (i := 38) rfl)) (hw _ (List.mem_of_getElem? (i := 37) rfl)) (by decide) (rm722 l Z a0 hw [] b1_57 b25 b29 n7 n8 n9 n10 b1x_57 b1y_57 b1z_57 v58 v59 v60 v61 v62 v63 v64 v65 v66 n1 n2 n3 n4 n5 n6 h57 n0 Z0 V_b1_57 V_b1x_57 V_b1y_57 V_b1z_57 V_b25 V_b29 (own_okp hj hi er es DC22 C22.2.2.2.2).nn) eH88 (by rw [hml]; rfl) (argsL := [(.ref b1_57), (.ref b25), (.ref b29), (.long n7), (.long n8), (.int n9), (.int n10), (.int (2 : Int32)), (.int (2 : Int32))]) rfl (lenOf pd_4 rfl) rfl at_454 (pc' := 457) rfl (by decide) (W := 0) (Nat.le_of_eq rfl) (by decide) (by decide) (by decide) (fun T91 h91 Lc91 v91r X91 eH91 hQ91 => ?_)
  obtain ⟨rfl, Nq91, rfl⟩ := hQ91
  have N91 := Fr.app N88 Nq91
  dsimp only [Option.toList, List.cons_append, List.nil_append]
  generalize q_r92 : (if deq (FP.dmul v66 (FP.i2d (n9 * n10))) (FP.l2d ((((n7 * n3) * n3) * (n10.toInt64)) + (((n8 * n6) * n6) * (n9.toInt64)))) then (1 : Int32) else (0 : Int32)) = r92
  have hk93 : ¬ (r92 = 0) := own_okd hj hi er es DC22 C22.2.2.2.2 (own_exp hj hi er es B_n7 B_n8 B_n3 B_n3 B_n6 B_n6) q_r92
  refine own_ifF X91 hx hby at_457 (own_i0_eq_n hk93) (pc' := 460) rfl ?_
  refine own_iconst X91 hx hby (v := (1 : Int32)) (by decide) at_460 (pc' := 461) rfl ?_
  refine own_goto X91 hx hby at_461 (by decide) (pc' := 465) (by decide) ?_
  exact own_retZ X91 hx hby Bd.notSynchronized Bd.returns (Or.inr rfl) at_465 (by decide) (by decide) eH91 ⟨rfl, N91⟩
set_option maxRecDepth 65536 in
set_option maxHeartbeats 40000000 in
theorem comes_1 {Post : Tables → Env → Array Value → State → Outcome → State → Prop} (hpost : ∀ tb e args s v u, (limb_1_1.after args s (.returned v) u = true ∧ limb_1_2.after args s (.returned v) u = true ∧ True) → FrameEnd s (.returned v) u (Jvm.fieldLocs frame_1_writes args s ++ Jvm.arrayLocs frame_1_arrays args s ++ Jvm.staticLocs frame_1_statics s) 48 192 → Post tb e args s (.returned v) u) :
    ArmFor flags0 classFile x code maxLocals ret World_1 tables_1 room_1 Calls_1 rest_1 Pre_1 Post := by
  intro l hfl _ _ p e ha hc hk s m args below hf hA hF happ hP
  obtain ⟨hcalls, hrest, hpre⟩ := hP
  obtain ⟨-, -, -, hnamed, -, -, -, hat⟩ := (Spec.applies_iff hf).mp happ
  obtain ⟨hg, hn⟩ := and_e (Cond.before_iff.mp (show (Jvm.Cond.and given_1 narrow_1).before args s = true from hpre))
  obtain ⟨gg1, gg2⟩ := and_e hg
  obtain ⟨gg3, gg4⟩ := and_e gg2
  obtain ⟨gg5, gg6⟩ := and_e gg4
  obtain ⟨gg7, gg8⟩ := and_e gg6
  obtain ⟨gg9, gg10⟩ := and_e gg8
  obtain ⟨w0, w1, w2, w3, w4, rfl⟩ : ∃ w0 w1 w2 w3 w4 : Value, args = #[w0, w1, w2, w3, w4] := by
    have hs : args.size = 5 := by simpa [Cond.value, given_1] using gg1
    obtain ⟨L⟩ := args
    match L, hs with
    | [w0, w1, w2, w3, w4], _ => exact ⟨w0, w1, w2, w3, w4, rfl⟩
  have hw := fun d (hd : d ∈ tables_1) => atoms_spec (ws := Jvm.Cond.code x code maxLocals ret :: tables_1) hat d (List.mem_cons_of_mem _ hd)
  have hfit : Fit s := fun {y c} hc i hi => by
    obtain ⟨ha, rfl⟩ := Array.getElem?_eq_some_iff.mp hc
    have q := List.all_eq_true.mp ((Array.all_eq_true_iff_forall_mem.mp hF) _ (Array.getElem_mem ha)) i (List.mem_range.mpr hi)
    simpa [Array.getElem?_eq_getElem hi] using q
  obtain ⟨i0, ei0⟩ := is_v gg3
  obtain rfl : w0 = (.int i0) := Option.some.inj ei0
  obtain ⟨i1, ei1⟩ := is_v gg5
  obtain rfl : w1 = (.int i1) := Option.some.inj ei1
  obtain ⟨i2, ei2⟩ := is_v gg7
  obtain rfl : w2 = (.int i2) := Option.some.inj ei2
  obtain ⟨i3, ei3⟩ := is_v gg9
  obtain rfl : w3 = (.int i3) := Option.some.inj ei3
  obtain ⟨i4, ei4⟩ := is_v gg10
  obtain rfl : w4 = (.int i4) := Option.some.inj ei4
  obtain ⟨n, o, h1, h2, h3, _, L, rfl, ⟨rfl, N⟩, hq⟩ := rm0 l s _ hw tables_1 i0 i1 i2 i3 i4 s.heap s.heap.size (Nat.le_refl _) p e ha hc hk s m _ below hf ((Spec.applies_iff_loose hf).mp happ).1 ⟨rfl, State.Warmed39.refl s, rfl⟩ trivial
  refine ⟨n, _, h1, h2, h3, hpost _ _ _ _ _ _ ⟨Cond.after_iff.mpr rfl, Cond.after_iff.mpr (eq_i res_at (Term.int_eval (1)) rfl), trivial⟩ ⟨hq.1, hq.2.1, (hq.2.2.sift fun y hy => Or.inr (N y hy)).mono (by decide) (by decide)⟩⟩
theorem main_1_1 : Claimed_1_1 := comes_1 fun _ _ _ _ _ _ h hF => ⟨h.1, hF⟩
theorem main_1_2 : Claimed_1_2 := comes_1 fun _ _ _ _ _ _ h hF => ⟨h.2.1, hF⟩
end Jvm.Pilot.@@N@@
namespace Jvm.Pilot.@@N@@
open Jvm Jvm.ClassFile Sem Op Lib Jvm.Free Jvm.Stand Jvm.Pilot.@@N@@.Jvm.D
/-! MADE BY PROGRAM (witnessworld.py) out of the Statement's table words and the real class files: 14 classes; the members and pool entries that the words name. The judged class is class 1, her method 1. -/
namespace start1
open Jvm.ClassFile
def u (s : String) : CpInfo := .utf8 (stringToUtf16 s)
/-- a pool by its gaps: so many unusable entries, then the entry; so many at the end -/
def gap : Nat → List CpInfo → List CpInfo
  | 0, r => r
  | n + 1, r => .unusable :: gap n r
def poolList (es : List (Nat × CpInfo)) (last : Nat) : List CpInfo := es.foldr (fun e r => gap e.1 (e.2 :: r)) (gap last [])
def pool (es : List (Nat × CpInfo)) (last : Nat) : Array CpInfo := ⟨poolList es last⟩
def fileOf (pool : Array CpInfo) (this : Nat) (attrs : Array Attribute := #[]) (ms : Array MethodInfo := #[]) (fl : Nat := 33) (sup : Nat := 0) (ifs : Array Nat := #[]) (fds : Array FieldInfo := #[]) : ClassFile where
  minorVersion := 0
  majorVersion := 65
  constantPool := pool
  accessFlags := fl
  thisClass := this
  superClass := sup
  interfaces := ifs
  fields := fds
  methods := ms
  attributes := attrs
def plain (name : String) (sup : Option ClassId) : Class where
  name := name
  kind := .ordinary
  loader := none
  accessFlags := 33
  super := sup
  interfaces := #[]
  cf := none
  fields := #[]
  methods := #[]
  instanceTypes := #[]
  staticTypes := #[]
  resolved := #[]
  callSites := []
  init := .initialized
  statics := none
  mirror := none

def pool0 : Array CpInfo := pool [(5, u "<init>"), (0, u "()V"), (1, .class_ 10), (1, u "java/lang/Object")] 113

def k0c0 : Code := { maxStack := 0, maxLocals := 1, code := object_method_1_code, exceptionTable := #[], attributes := #[] }
def k0m0 : Method := { name := "<init>", desc := "()V", sig := { parameters := [], returnType := none }, accessFlags := 1, code := some k0c0 }
/-- java/lang/Object -/
def k0 : Class := { plain "java/lang/Object" none with
  accessFlags := 33
  interfaces := #[]
  cf := some (fileOf pool0 8 #[] #[{ accessFlags := 1, nameIndex := 5, descriptorIndex := 6, attributes := #[] }] 33 0 #[] #[])
  fields := #[]
  methods := #[k0m0]
  instanceTypes := #[]
  staticTypes := #[]
  resolved := Array.replicate 124 none
  statics := none }

def pool1 : Array CpInfo := pool [(2, .class_ 4), (0, .nameAndType 5 6), (0, u "java/lang/Object"), (0, u "<init>"), (0, u "()V"), (0, .class_ 8), (0, u "com/example/volts_to_velocity/voltstovelocity/ScoreNoise"), (0, .methodref 7 3), (0, .methodref 7 11), (0, .nameAndType 12 13), (0, u "addVelocity"), (0, u "([DI)V"), (0, .methodref 7 15), (0, .nameAndType 16 13), (0, u "addVoltage"), (0, .methodref 7 18), (0, .nameAndType 19 20), (0, u "covariance"), (0, u "(DD)[[D"), (0, .methodref 22 23), (0, .class_ 24), (0, .nameAndType 25 26), (0, u "com/example/volts_to_velocity/voltstovelocity/ScoreNoiseCovariancePinLaw"), (0, u "ok"), (0, u "([[D[J[JJJIIII)Z"), (2, u "law"), (0, u "(IIIII)Z")] 9

def k1m0 : Method := { name := "<init>", desc := "()V", sig := { parameters := [], returnType := none }, accessFlags := 1, code := none }
def k1c1 : Code := { maxStack := 11, maxLocals := 29, code := code, exceptionTable := #[], attributes := #[] }
def k1m1 : Method := { name := "law", desc := "(IIIII)Z", sig := { parameters := [.int, .int, .int, .int, .int], returnType := some .boolean }, accessFlags := 9, code := some k1c1 }
def k1c2 : Code := { maxStack := 6, maxLocals := 13, code := method_3_code, exceptionTable := #[], attributes := #[] }
def k1m2 : Method := { name := "ok", desc := "([[D[J[JJJIIII)Z", sig := { parameters := [(.array (.array .double)), (.array .long), (.array .long), .long, .long, .int, .int, .int, .int], returnType := some .boolean }, accessFlags := 10, code := some k1c2 }
/-- com/example/volts_to_velocity/voltstovelocity/ScoreNoiseCovariancePinLaw -/
def k1 : Class := { plain "com/example/volts_to_velocity/voltstovelocity/ScoreNoiseCovariancePinLaw" (some 0) with
  accessFlags := 49
  interfaces := #[]
  cf := some (fileOf pool1 22 #[] #[{ accessFlags := 1, nameIndex := 5, descriptorIndex := 6, attributes := #[] }, { accessFlags := 9, nameIndex := 29, descriptorIndex := 30, attributes := #[] }, { accessFlags := 10, nameIndex := 25, descriptorIndex := 26, attributes := #[] }] 49 2 #[] #[])
  fields := #[]
  methods := #[k1m0, k1m1, k1m2]
  instanceTypes := #[]
  staticTypes := #[]
  resolved := Array.replicate 40 none
  statics := none }

def pool2 : Array CpInfo := pool [(1, .methodref 2 3), (0, .class_ 4), (0, .nameAndType 5 6), (0, u "java/lang/Object"), (0, u "<init>"), (0, u "()V"), (0, .class_ 8), (0, u "[[D"), (0, .fieldref 10 11), (0, .class_ 12), (0, .nameAndType 13 8), (0, u "com/example/volts_to_velocity/voltstovelocity/ScoreNoise"), (0, u "velocity"), (0, .fieldref 10 15), (0, .nameAndType 16 8), (0, u "voltage"), (0, .methodref 10 18), (0, .nameAndType 19 20), (0, u "addOuter"), (0, u "([[D[DI)V"), (2, u "residualSquares"), (0, u "D"), (2, u "velocityResidualShare"), (2, u "voltageResidualShare"), (2, u "addVelocity"), (0, u "([DI)V"), (0, u "addVoltage"), (5, u "covariance"), (0, u "(DD)[[D")] 2

def k2c0 : Code := { maxStack := 3, maxLocals := 1, code := prog_20_method_1_code, exceptionTable := #[], attributes := #[] }
def k2m0 : Method := { name := "<init>", desc := "()V", sig := { parameters := [], returnType := none }, accessFlags := 0, code := some k2c0 }
def k2c1 : Code := { maxStack := 3, maxLocals := 3, code := prog_20_method_2_code, exceptionTable := #[], attributes := #[] }
def k2m1 : Method := { name := "addVelocity", desc := "([DI)V", sig := { parameters := [(.array .double), .int], returnType := none }, accessFlags := 0, code := some k2c1 }
def k2c2 : Code := { maxStack := 3, maxLocals := 3, code := prog_20_method_3_code, exceptionTable := #[], attributes := #[] }
def k2m2 : Method := { name := "addVoltage", desc := "([DI)V", sig := { parameters := [(.array .double), .int], returnType := none }, accessFlags := 0, code := some k2c2 }
def k2c3 : Code := { maxStack := 8, maxLocals := 8, code := prog_20_method_6_code, exceptionTable := #[], attributes := #[] }
def k2m3 : Method := { name := "covariance", desc := "(DD)[[D", sig := { parameters := [.double, .double], returnType := some (.array (.array .double)) }, accessFlags := 0, code := some k2c3 }
def k2c4 : Code := { maxStack := 8, maxLocals := 5, code := prog_20_method_7_code, exceptionTable := #[], attributes := #[] }
def k2m4 : Method := { name := "addOuter", desc := "([[D[DI)V", sig := { parameters := [(.array (.array .double)), (.array .double), .int], returnType := none }, accessFlags := 10, code := some k2c4 }
/-- com/example/volts_to_velocity/voltstovelocity/ScoreNoise -/
def k2 : Class := { plain "com/example/volts_to_velocity/voltstovelocity/ScoreNoise" (some 0) with
  accessFlags := 48
  interfaces := #[]
  cf := some (fileOf pool2 10 #[] #[{ accessFlags := 0, nameIndex := 5, descriptorIndex := 6, attributes := #[] }, { accessFlags := 0, nameIndex := 33, descriptorIndex := 34, attributes := #[] }, { accessFlags := 0, nameIndex := 35, descriptorIndex := 34, attributes := #[] }, { accessFlags := 0, nameIndex := 41, descriptorIndex := 42, attributes := #[] }, { accessFlags := 10, nameIndex := 19, descriptorIndex := 20, attributes := #[] }] 48 2 #[] #[{ accessFlags := 18, nameIndex := 13, descriptorIndex := 8, attributes := #[] }, { accessFlags := 18, nameIndex := 16, descriptorIndex := 8, attributes := #[] }, { accessFlags := 2, nameIndex := 23, descriptorIndex := 24, attributes := #[] }, { accessFlags := 2, nameIndex := 27, descriptorIndex := 24, attributes := #[] }, { accessFlags := 2, nameIndex := 30, descriptorIndex := 24, attributes := #[] }])
  fields := #[{ name := "velocity", type := (.array (.array .double)), accessFlags := 18, slot := 0, constantValue := 0 }, { name := "voltage", type := (.array (.array .double)), accessFlags := 18, slot := 1, constantValue := 0 }, { name := "residualSquares", type := .double, accessFlags := 2, slot := 2, constantValue := 0 }, { name := "velocityResidualShare", type := .double, accessFlags := 2, slot := 3, constantValue := 0 }, { name := "voltageResidualShare", type := .double, accessFlags := 2, slot := 4, constantValue := 0 }]
  methods := #[k2m0, k2m1, k2m2, k2m3, k2m4]
  instanceTypes := #[(.array (.array .double)), (.array (.array .double)), .double, .double, .double]
  staticTypes := #[]
  resolved := Array.replicate 45 none
  statics := none }

def pool3 : Array CpInfo := pool [(1, u "java/lang/Cloneable"), (0, .class_ 1), (0, u "java/lang/Object"), (0, .class_ 3)] 3

/-- java/lang/Cloneable -/
def k3 : Class := { plain "java/lang/Cloneable" (some 0) with
  accessFlags := 1537
  interfaces := #[]
  cf := some (fileOf pool3 2 #[] #[] 1537 4 #[] #[])
  fields := #[]
  methods := #[]
  instanceTypes := #[]
  staticTypes := #[]
  resolved := Array.replicate 8 none
  statics := none }

def pool4 : Array CpInfo := pool [(1, u "java/io/Serializable"), (0, .class_ 1), (0, u "java/lang/Object"), (0, .class_ 3)] 3

/-- java/io/Serializable -/
def k4 : Class := { plain "java/io/Serializable" (some 0) with
  accessFlags := 1537
  interfaces := #[]
  cf := some (fileOf pool4 2 #[] #[] 1537 4 #[] #[])
  fields := #[]
  methods := #[]
  instanceTypes := #[]
  staticTypes := #[]
  resolved := Array.replicate 8 none
  statics := none }

/-- the primitive byte -/
def k5 : Class := { plain "byte" none with kind := .primitive 'B', accessFlags := 0x411 }
/-- [B -/
def k6 : Class := { plain "[B" (some 0) with kind := .array 5 .byte, interfaces := #[3, 4], accessFlags := 1041 }

/-- the primitive double -/
def k7 : Class := { plain "double" none with kind := .primitive 'D', accessFlags := 0x411 }
/-- [D -/
def k8 : Class := { plain "[D" (some 0) with kind := .array 7 .double, interfaces := #[3, 4], accessFlags := 1041 }

/-- the primitive int -/
def k9 : Class := { plain "int" none with kind := .primitive 'I', accessFlags := 0x411 }
/-- [I -/
def k10 : Class := { plain "[I" (some 0) with kind := .array 9 .int, interfaces := #[3, 4], accessFlags := 1041 }

/-- the primitive long -/
def k11 : Class := { plain "long" none with kind := .primitive 'J', accessFlags := 0x411 }
/-- [J -/
def k12 : Class := { plain "[J" (some 0) with kind := .array 11 .long, interfaces := #[3, 4], accessFlags := 1041 }

/-- [[D -/
def k13 : Class := { plain "[[D" (some 0) with kind := .array 8 (.array .double), interfaces := #[3, 4], accessFlags := 1041 }

def heap : Heap := #[]
def classes : Array Class := #[k0, k1, k2, k3, k4, k5, k6, k7, k8, k9, k10, k11, k12, k13]
def interned : List (Array UInt16 × Addr) := []
def slotsUsed : Nat := 0
def theMethod : MethodId := ⟨1, 1⟩
def args0 : Array Value := #[.int 5, .int 7, .int 9, .int 2, .int 3]
def aboutOver (below : List Frame) : State where
  vm := { classes := classes, interned := interned.toArray }
  heap := heap
  slotsUsed := slotsUsed
  threads := #[{ frames := .invoking theMethod args0 :: below }]
def below0 : List Frame := [.native { method := ⟨0, 0⟩, args := #[] }]
def about1 : State := aboutOver below0
def p0 : Program := .bare "" "" ""
def e0 : Env := launch0.env 0 0 0
theorem w_frames : about1.frames = Frame.invoking theMethod args0 :: below0 := rfl
set_option maxRecDepth 65536 in
theorem w_args : argsFit about1.vm theMethod args0 = true := by decide +kernel
set_option maxRecDepth 65536 in
theorem w_heap : heapFits about1 = true := by decide +kernel
set_option maxRecDepth 65536 in
theorem w_runnable : about1.curStatus? = some .runnable := by decide +kernel
set_option maxRecDepth 65536 in
theorem w_alone : about1.alone = true := by decide +kernel
set_option maxRecDepth 65536 in
theorem w_named : about1.methodNamed? x = some theMethod := by decide +kernel
set_option maxRecDepth 65536 in
theorem w_hears : about1.hears theMethod below0 = true := by decide +kernel
set_option maxRecDepth 65536 in
theorem w_ripe : about1.ripe theMethod args0 below0 = true := by decide +kernel
theorem w_running : about1.status = .running := rfl
set_option maxRecDepth 65536 in
theorem w_room : about1.hasRoom e0.platform room_1 = true :=
  launch0.hasRoom_least _ room_1 (by decide +kernel) (by decide +kernel) (by decide +kernel) (by decide +kernel) (by decide +kernel) (by decide +kernel)
theorem allAtoms_all (ts : List Jvm.Cond) (a : Array Jvm.Value) (st : Jvm.State) : (allAtoms ts).before a st = ts.all (fun c => c.before a st) := by
  induction ts with
  | nil => rfl
  | cons c t ih =>
    show (Jvm.Cond.and c (allAtoms t)).before a st = _
    rw [Jvm.Cond.before_and, ih, List.all_cons]
def words1 : List Jvm.Cond := Jvm.Cond.code x code maxLocals ret :: tables_1
/-- a 'code' word, met by the world's own term for the bytes: nothing is compared byte by byte -/
theorem code_word {y : MethodName} {bytes : ByteArray} {mx : Nat} {rt : Option FieldType} {a : Array Value} {s : State} {m : MethodId} {meth : Method} {c : Code} (h1 : s.methodNamed? y = some m) (h2 : s.vm.method? m = some meth) (h3 : meth.code = some c) (h4 : c.code = bytes)
    (h5 : (c.maxLocals == mx && c.exceptionTable.isEmpty && decide (c.maxStack ≤ mostOperands) && decide (meth.sig.returnType = rt) && !meth.locks && decide (parseMethodDescriptor y.desc = some meth.sig)) = true) : (Jvm.Cond.code y bytes mx rt).before a s = true := by
  simp only [Bool.and_eq_true, beq_iff_eq, Bool.not_eq_true', decide_eq_true_eq] at h5
  obtain ⟨⟨⟨⟨⟨g1, g2⟩, g3⟩, g4⟩, g5⟩, g6⟩ := h5
  simp [Cond.before, Cond.holds, Cond.value, h1, h2, h3, h4, g1, g2, g3, g4, g5, g6]
def isCode : Jvm.Cond → Bool
  | .code _ _ _ _ => true
  | _ => false
theorem all_split {L : List Jvm.Cond} {P : Jvm.Cond → Bool} (h1 : L.all (fun c => isCode c || P c) = true) (h2 : ∀ c ∈ L.filter isCode, P c = true) : L.all P = true := by
  refine List.all_eq_true.mpr fun c hc => ?_
  have h := List.all_eq_true.mp h1 c hc
  rcases Bool.eq_false_or_eq_true (isCode c) with hi | hi
  · exact h2 c (List.mem_filter.mpr ⟨hc, hi⟩)
  · simpa [hi] using h
set_option maxRecDepth 65536 in
theorem w_c0 : (Jvm.Cond.code x code maxLocals ret).before args0 about1 = true := code_word (m := ⟨1, 1⟩) (meth := k1m1) (c := k1c1) (by decide +kernel) rfl rfl rfl (by decide +kernel)
set_option maxRecDepth 65536 in
theorem w_c1 : (Jvm.Cond.code ({ cls := "com/example/volts_to_velocity/voltstovelocity/ScoreNoise", name := "<init>", desc := "()V" } : Jvm.MethodName) prog_20_method_1_code (1 : Nat) (Option.none : Option Jvm.ClassFile.FieldType)).before args0 about1 = true := code_word (m := ⟨2, 0⟩) (meth := k2m0) (c := k2c0) (by decide +kernel) rfl rfl rfl (by decide +kernel)
set_option maxRecDepth 65536 in
theorem w_c2 : (Jvm.Cond.code ({ cls := "java/lang/Object", name := "<init>", desc := "()V" } : Jvm.MethodName) object_method_1_code (1 : Nat) (Option.none : Option Jvm.ClassFile.FieldType)).before args0 about1 = true := code_word (m := ⟨0, 0⟩) (meth := k0m0) (c := k0c0) (by decide +kernel) rfl rfl rfl (by decide +kernel)
set_option maxRecDepth 65536 in
theorem w_c3 : (Jvm.Cond.code ({ cls := "com/example/volts_to_velocity/voltstovelocity/ScoreNoise", name := "addVelocity", desc := "([DI)V" } : Jvm.MethodName) prog_20_method_2_code (3 : Nat) (Option.none : Option Jvm.ClassFile.FieldType)).before args0 about1 = true := code_word (m := ⟨2, 1⟩) (meth := k2m1) (c := k2c1) (by decide +kernel) rfl rfl rfl (by decide +kernel)
set_option maxRecDepth 65536 in
theorem w_c4 : (Jvm.Cond.code ({ cls := "com/example/volts_to_velocity/voltstovelocity/ScoreNoise", name := "addOuter", desc := "([[D[DI)V" } : Jvm.MethodName) prog_20_method_7_code (5 : Nat) (Option.none : Option Jvm.ClassFile.FieldType)).before args0 about1 = true := code_word (m := ⟨2, 4⟩) (meth := k2m4) (c := k2c4) (by decide +kernel) rfl rfl rfl (by decide +kernel)
set_option maxRecDepth 65536 in
theorem w_c5 : (Jvm.Cond.code ({ cls := "com/example/volts_to_velocity/voltstovelocity/ScoreNoise", name := "addVoltage", desc := "([DI)V" } : Jvm.MethodName) prog_20_method_3_code (3 : Nat) (Option.none : Option Jvm.ClassFile.FieldType)).before args0 about1 = true := code_word (m := ⟨2, 2⟩) (meth := k2m2) (c := k2c2) (by decide +kernel) rfl rfl rfl (by decide +kernel)
set_option maxRecDepth 65536 in
theorem w_c6 : (Jvm.Cond.code ({ cls := "com/example/volts_to_velocity/voltstovelocity/ScoreNoise", name := "covariance", desc := "(DD)[[D" } : Jvm.MethodName) prog_20_method_6_code (8 : Nat) (Option.some (Jvm.ClassFile.FieldType.array (Jvm.ClassFile.FieldType.array Jvm.ClassFile.FieldType.double)))).before args0 about1 = true := code_word (m := ⟨2, 3⟩) (meth := k2m3) (c := k2c3) (by decide +kernel) rfl rfl rfl (by decide +kernel)
set_option maxRecDepth 65536 in
theorem w_c7 : (Jvm.Cond.code ({ cls := "com/example/volts_to_velocity/voltstovelocity/ScoreNoiseCovariancePinLaw", name := "ok", desc := "([[D[J[JJJIIII)Z" } : Jvm.MethodName) method_3_code (13 : Nat) (Option.some Jvm.ClassFile.FieldType.boolean)).before args0 about1 = true := code_word (m := ⟨1, 2⟩) (meth := k1m2) (c := k1c2) (by decide +kernel) rfl rfl rfl (by decide +kernel)
def codes1 : List Jvm.Cond := [Jvm.Cond.code x code maxLocals ret, Jvm.Cond.code ({ cls := "com/example/volts_to_velocity/voltstovelocity/ScoreNoise", name := "<init>", desc := "()V" } : Jvm.MethodName) prog_20_method_1_code (1 : Nat) (Option.none : Option Jvm.ClassFile.FieldType), Jvm.Cond.code ({ cls := "java/lang/Object", name := "<init>", desc := "()V" } : Jvm.MethodName) object_method_1_code (1 : Nat) (Option.none : Option Jvm.ClassFile.FieldType), Jvm.Cond.code ({ cls := "com/example/volts_to_velocity/voltstovelocity/ScoreNoise", name := "addVelocity", desc := "([DI)V" } : Jvm.MethodName) prog_20_method_2_code (3 : Nat) (Option.none : Option Jvm.ClassFile.FieldType), Jvm.Cond.code ({ cls := "com/example/volts_to_velocity/voltstovelocity/ScoreNoise", name := "addOuter", desc := "([[D[DI)V" } : Jvm.MethodName) prog_20_method_7_code (5 : Nat) (Option.none : Option Jvm.ClassFile.FieldType), Jvm.Cond.code ({ cls := "com/example/volts_to_velocity/voltstovelocity/ScoreNoise", name := "addVoltage", desc := "([DI)V" } : Jvm.MethodName) prog_20_method_3_code (3 : Nat) (Option.none : Option Jvm.ClassFile.FieldType), Jvm.Cond.code ({ cls := "com/example/volts_to_velocity/voltstovelocity/ScoreNoise", name := "covariance", desc := "(DD)[[D" } : Jvm.MethodName) prog_20_method_6_code (8 : Nat) (Option.some (Jvm.ClassFile.FieldType.array (Jvm.ClassFile.FieldType.array Jvm.ClassFile.FieldType.double))), Jvm.Cond.code ({ cls := "com/example/volts_to_velocity/voltstovelocity/ScoreNoiseCovariancePinLaw", name := "ok", desc := "([[D[J[JJJIIII)Z" } : Jvm.MethodName) method_3_code (13 : Nat) (Option.some Jvm.ClassFile.FieldType.boolean)]
set_option maxRecDepth 65536 in
theorem codes_eq : words1.filter isCode = codes1 := rfl
theorem w_codes : ∀ c ∈ words1.filter isCode, c.before args0 about1 = true := by
  rw [codes_eq]
  intro c hc
  simp only [codes1, List.mem_cons, List.not_mem_nil, or_false] at hc
  rcases hc with rfl | rfl | rfl | rfl | rfl | rfl | rfl | rfl
  · exact w_c0
  · exact w_c1
  · exact w_c2
  · exact w_c3
  · exact w_c4
  · exact w_c5
  · exact w_c6
  · exact w_c7
set_option maxRecDepth 65536 in
theorem w_t1 : (words1.take 24).all (fun c => isCode c || c.before args0 about1) = true := by decide +kernel
set_option maxRecDepth 65536 in
theorem w_t2 : (words1.drop 24).all (fun c => isCode c || c.before args0 about1) = true := by decide +kernel
theorem w_tables : (allAtoms (Jvm.Cond.code x code maxLocals ret :: tables_1)).before args0 about1 = true := by
  rw [allAtoms_all]
  show words1.all (fun c => c.before args0 about1) = true
  refine all_split ?_ w_codes
  rw [← List.take_append_drop 24 words1, List.all_append, w_t1, w_t2]
  rfl
set_option maxRecDepth 65536 in
theorem w_case : (Jvm.Cond.and given_1 narrow_1).before args0 about1 = true := by decide +kernel
theorem w_applies : (headSpec (Jvm.Cond.code x code maxLocals ret :: tables_1) room_1).applies x e0.platform about1 = true :=
  (Spec.applies_iff w_frames).mpr ⟨w_running, w_runnable, w_alone, w_named, w_hears, w_ripe, w_room, w_tables⟩
theorem atStart : AtStart classFile x code maxLocals ret World_1 tables_1 room_1 Calls_1 rest_1 Pre_1 launch0 p0 e0 about1 theMethod args0 below0 :=
  ⟨lists_1, trivial, launch0.admits_env _ _ _, launch0.least_env, fairChoices_fair.cas, fairChoices_fair.clock, w_frames, w_args, w_heap, w_applies, trivial, trivial, w_case⟩
end start1
theorem witness_1 : WitnessClaimed_1 := ⟨start1.p0, start1.e0, start1.about1, start1.theMethod, start1.args0, start1.below0, start1.atStart⟩
end Jvm.Pilot.@@N@@
