import JvmDerived
import JvmDerived.Pilot.@@N@@Statement
import JvmDerived.Pilot.@@N@@Code
set_option linter.unusedVariables false
set_option linter.unusedSimpArgs false
namespace Jvm.Pilot.@@N@@
open Jvm Jvm.ClassFile Sem Op Lib Jvm.Free Jvm.Stand Jvm.LawKit Jvm.RoadKit Jvm.Free.Fl Bundle Jvm.Pilot.@@N@@.Jvm.D
section OwnG
variable {p : Program} {l : Launch} {e : Env} {R : Room} {s : State} {m : MethodId} {args : Array Value} {below : List Frame} {meth : Method} {c : Code} {T : State} {locs : List Loc} {cells slots : Nat} {Z : State} {a0 : Array Value} {h : Heap} {B : ByteArray} {pc pc' : Nat} {L L' : Array Slot} {rest : List Value} {F : Outcome → State → Prop}
def Gt (tb : Tables) (e : Env) (below : List Frame) (F : Outcome → State → Prop) (S : State) : Prop := ∃ s₂ o, Steps tb e below S s₂ ∧ s₂.status = .running ∧ Ended s₂ below o ∧ F o s₂
theorem Gt.go {tb : Tables} {S S' : State} (k : Gt tb e below F S') (q : ∀ t, Steps tb e below S' t → Steps tb e below S t) : Gt tb e below F S := by
  obtain ⟨a, o, h1, h2⟩ := k; exact ⟨a, o, q _ h1, h2⟩
theorem own_join {tb : Tables} {S S' : State} (q : ∀ F', Gt tb e below F' S' → Gt tb e below F' S) (k : Gt tb e below F S') : Gt tb e below F S := q F k
theorem own_cast {tb : Tables} {g g' : JFrame} (q : g = g') (k : Gt tb e below F (T.setTop g')) : Gt tb e below F (T.setTop g) := q ▸ k
theorem own_iadd (X : Stand p l e R s m args below meth c T locs cells slots) (hx : p.tables.exec = Jvm.exec) (hby : c.code = B) {x y v : Int32} (hv : x + y = v) (hd : decode B pc = .ok (.iadd, 1)) (hp : pc + 1 = pc') (k : Gt p.tables e below F (T.setTop (mkF m pc' L (.int v :: rest)))) : Gt p.tables e below F (T.setTop (mkF m pc L (.int y :: .int x :: rest))) := by
  subst hp; exact (by subst hv; exact k.go fun t q => XS.iadd X.here hx rfl (hb hby hd) rfl q)
theorem own_isub (X : Stand p l e R s m args below meth c T locs cells slots) (hx : p.tables.exec = Jvm.exec) (hby : c.code = B) {x y v : Int32} (hv : x - y = v) (hd : decode B pc = .ok (.isub, 1)) (hp : pc + 1 = pc') (k : Gt p.tables e below F (T.setTop (mkF m pc' L (.int v :: rest)))) : Gt p.tables e below F (T.setTop (mkF m pc L (.int y :: .int x :: rest))) := by
  subst hp; exact (by subst hv; exact k.go fun t q => XS.isub X.here hx rfl (hb hby hd) rfl q)
theorem own_imul (X : Stand p l e R s m args below meth c T locs cells slots) (hx : p.tables.exec = Jvm.exec) (hby : c.code = B) {x y v : Int32} (hv : x * y = v) (hd : decode B pc = .ok (.imul, 1)) (hp : pc + 1 = pc') (k : Gt p.tables e below F (T.setTop (mkF m pc' L (.int v :: rest)))) : Gt p.tables e below F (T.setTop (mkF m pc L (.int y :: .int x :: rest))) := by
  subst hp; exact (by subst hv; exact k.go fun t q => XS.imul X.here hx rfl (hb hby hd) rfl q)
theorem own_iand (X : Stand p l e R s m args below meth c T locs cells slots) (hx : p.tables.exec = Jvm.exec) (hby : c.code = B) {x y v : Int32} (hv : x &&& y = v) (hd : decode B pc = .ok (.iand, 1)) (hp : pc + 1 = pc') (k : Gt p.tables e below F (T.setTop (mkF m pc' L (.int v :: rest)))) : Gt p.tables e below F (T.setTop (mkF m pc L (.int y :: .int x :: rest))) := by
  subst hp; exact (by subst hv; exact k.go fun t q => XS.iand X.here hx rfl (hb hby hd) rfl q)
theorem own_ior (X : Stand p l e R s m args below meth c T locs cells slots) (hx : p.tables.exec = Jvm.exec) (hby : c.code = B) {x y v : Int32} (hv : x ||| y = v) (hd : decode B pc = .ok (.ior, 1)) (hp : pc + 1 = pc') (k : Gt p.tables e below F (T.setTop (mkF m pc' L (.int v :: rest)))) : Gt p.tables e below F (T.setTop (mkF m pc L (.int y :: .int x :: rest))) := by
  subst hp; exact (by subst hv; exact k.go fun t q => XS.ior X.here hx rfl (hb hby hd) rfl q)
theorem own_ixor (X : Stand p l e R s m args below meth c T locs cells slots) (hx : p.tables.exec = Jvm.exec) (hby : c.code = B) {x y v : Int32} (hv : x ^^^ y = v) (hd : decode B pc = .ok (.ixor, 1)) (hp : pc + 1 = pc') (k : Gt p.tables e below F (T.setTop (mkF m pc' L (.int v :: rest)))) : Gt p.tables e below F (T.setTop (mkF m pc L (.int y :: .int x :: rest))) := by
  subst hp; exact (by subst hv; exact k.go fun t q => XS.ixor X.here hx rfl (hb hby hd) rfl q)
theorem own_ishl (X : Stand p l e R s m args below meth c T locs cells slots) (hx : p.tables.exec = Jvm.exec) (hby : c.code = B) {x y v : Int32} (hv : x <<< (y &&& 31) = v) (hd : decode B pc = .ok (.ishl, 1)) (hp : pc + 1 = pc') (k : Gt p.tables e below F (T.setTop (mkF m pc' L (.int v :: rest)))) : Gt p.tables e below F (T.setTop (mkF m pc L (.int y :: .int x :: rest))) := by
  subst hp; exact (by subst hv; exact k.go fun t q => XS.ishl X.here hx rfl (hb hby hd) rfl q)
theorem own_ishr (X : Stand p l e R s m args below meth c T locs cells slots) (hx : p.tables.exec = Jvm.exec) (hby : c.code = B) {x y v : Int32} (hv : x >>> (y &&& 31) = v) (hd : decode B pc = .ok (.ishr, 1)) (hp : pc + 1 = pc') (k : Gt p.tables e below F (T.setTop (mkF m pc' L (.int v :: rest)))) : Gt p.tables e below F (T.setTop (mkF m pc L (.int y :: .int x :: rest))) := by
  subst hp; exact (by subst hv; exact k.go fun t q => XS.ishr X.here hx rfl (hb hby hd) rfl q)
theorem own_iushr (X : Stand p l e R s m args below meth c T locs cells slots) (hx : p.tables.exec = Jvm.exec) (hby : c.code = B) {x y v : Int32} (hv : (x.toUInt32 >>> (y &&& 31).toUInt32).toInt32 = v) (hd : decode B pc = .ok (.iushr, 1)) (hp : pc + 1 = pc') (k : Gt p.tables e below F (T.setTop (mkF m pc' L (.int v :: rest)))) : Gt p.tables e below F (T.setTop (mkF m pc L (.int y :: .int x :: rest))) := by
  subst hp; exact (by subst hv; exact k.go fun t q => XS.iushr X.here hx rfl (hb hby hd) rfl q)
theorem own_ladd (X : Stand p l e R s m args below meth c T locs cells slots) (hx : p.tables.exec = Jvm.exec) (hby : c.code = B) {x y v : Int64} (hv : x + y = v) (hd : decode B pc = .ok (.ladd, 1)) (hp : pc + 1 = pc') (k : Gt p.tables e below F (T.setTop (mkF m pc' L (.long v :: rest)))) : Gt p.tables e below F (T.setTop (mkF m pc L (.long y :: .long x :: rest))) := by
  subst hp; exact (by subst hv; exact k.go fun t q => XS.ladd X.here hx rfl (hb hby hd) rfl q)
theorem own_lsub (X : Stand p l e R s m args below meth c T locs cells slots) (hx : p.tables.exec = Jvm.exec) (hby : c.code = B) {x y v : Int64} (hv : x - y = v) (hd : decode B pc = .ok (.lsub, 1)) (hp : pc + 1 = pc') (k : Gt p.tables e below F (T.setTop (mkF m pc' L (.long v :: rest)))) : Gt p.tables e below F (T.setTop (mkF m pc L (.long y :: .long x :: rest))) := by
  subst hp; exact (by subst hv; exact k.go fun t q => XS.lsub X.here hx rfl (hb hby hd) rfl q)
theorem own_lmul (X : Stand p l e R s m args below meth c T locs cells slots) (hx : p.tables.exec = Jvm.exec) (hby : c.code = B) {x y v : Int64} (hv : x * y = v) (hd : decode B pc = .ok (.lmul, 1)) (hp : pc + 1 = pc') (k : Gt p.tables e below F (T.setTop (mkF m pc' L (.long v :: rest)))) : Gt p.tables e below F (T.setTop (mkF m pc L (.long y :: .long x :: rest))) := by
  subst hp; exact (by subst hv; exact k.go fun t q => XS.lmul X.here hx rfl (hb hby hd) rfl q)
theorem own_land (X : Stand p l e R s m args below meth c T locs cells slots) (hx : p.tables.exec = Jvm.exec) (hby : c.code = B) {x y v : Int64} (hv : x &&& y = v) (hd : decode B pc = .ok (.land, 1)) (hp : pc + 1 = pc') (k : Gt p.tables e below F (T.setTop (mkF m pc' L (.long v :: rest)))) : Gt p.tables e below F (T.setTop (mkF m pc L (.long y :: .long x :: rest))) := by
  subst hp; exact (by subst hv; exact k.go fun t q => XS.land X.here hx rfl (hb hby hd) rfl q)
theorem own_lor (X : Stand p l e R s m args below meth c T locs cells slots) (hx : p.tables.exec = Jvm.exec) (hby : c.code = B) {x y v : Int64} (hv : x ||| y = v) (hd : decode B pc = .ok (.lor, 1)) (hp : pc + 1 = pc') (k : Gt p.tables e below F (T.setTop (mkF m pc' L (.long v :: rest)))) : Gt p.tables e below F (T.setTop (mkF m pc L (.long y :: .long x :: rest))) := by
  subst hp; exact (by subst hv; exact k.go fun t q => XS.lor X.here hx rfl (hb hby hd) rfl q)
theorem own_lxor (X : Stand p l e R s m args below meth c T locs cells slots) (hx : p.tables.exec = Jvm.exec) (hby : c.code = B) {x y v : Int64} (hv : x ^^^ y = v) (hd : decode B pc = .ok (.lxor, 1)) (hp : pc + 1 = pc') (k : Gt p.tables e below F (T.setTop (mkF m pc' L (.long v :: rest)))) : Gt p.tables e below F (T.setTop (mkF m pc L (.long y :: .long x :: rest))) := by
  subst hp; exact (by subst hv; exact k.go fun t q => XS.lxor X.here hx rfl (hb hby hd) rfl q)
theorem own_lshl (X : Stand p l e R s m args below meth c T locs cells slots) (hx : p.tables.exec = Jvm.exec) (hby : c.code = B) {x v : Int64} {y : Int32} (hv : x <<< (y &&& 0x3f).toInt64 = v) (hd : decode B pc = .ok (.lshl, 1)) (hp : pc + 1 = pc') (k : Gt p.tables e below F (T.setTop (mkF m pc' L (.long v :: rest)))) : Gt p.tables e below F (T.setTop (mkF m pc L (.int y :: .long x :: rest))) := by
  subst hp; exact (by subst hv; exact k.go fun t q => XS.lshl X.here hx rfl (hb hby hd) rfl q)
theorem own_lshr (X : Stand p l e R s m args below meth c T locs cells slots) (hx : p.tables.exec = Jvm.exec) (hby : c.code = B) {x v : Int64} {y : Int32} (hv : x >>> (y &&& 0x3f).toInt64 = v) (hd : decode B pc = .ok (.lshr, 1)) (hp : pc + 1 = pc') (k : Gt p.tables e below F (T.setTop (mkF m pc' L (.long v :: rest)))) : Gt p.tables e below F (T.setTop (mkF m pc L (.int y :: .long x :: rest))) := by
  subst hp; exact (by subst hv; exact k.go fun t q => XS.lshr X.here hx rfl (hb hby hd) rfl q)
theorem own_lushr (X : Stand p l e R s m args below meth c T locs cells slots) (hx : p.tables.exec = Jvm.exec) (hby : c.code = B) {x v : Int64} {y : Int32} (hv : (x.toUInt64 >>> (y &&& 0x3f).toInt64.toUInt64).toInt64 = v) (hd : decode B pc = .ok (.lushr, 1)) (hp : pc + 1 = pc') (k : Gt p.tables e below F (T.setTop (mkF m pc' L (.long v :: rest)))) : Gt p.tables e below F (T.setTop (mkF m pc L (.int y :: .long x :: rest))) := by
  subst hp; exact (by subst hv; exact k.go fun t q => XS.lushr X.here hx rfl (hb hby hd) rfl q)
theorem own_idiv (X : Stand p l e R s m args below meth c T locs cells slots) (hx : p.tables.exec = Jvm.exec) (hby : c.code = B) {x y v : Int32} (hy : y ≠ 0) (hv : x / y = v) (hd : decode B pc = .ok (.idiv, 1)) (hp : pc + 1 = pc') (k : Gt p.tables e below F (T.setTop (mkF m pc' L (.int v :: rest)))) : Gt p.tables e below F (T.setTop (mkF m pc L (.int y :: .int x :: rest))) := by
  subst hp; exact (by subst hv; exact k.go fun t q => XS.idiv X.here hx rfl (hb hby hd) rfl hy q)
theorem own_irem (X : Stand p l e R s m args below meth c T locs cells slots) (hx : p.tables.exec = Jvm.exec) (hby : c.code = B) {x y v : Int32} (hy : y ≠ 0) (hv : x % y = v) (hd : decode B pc = .ok (.irem, 1)) (hp : pc + 1 = pc') (k : Gt p.tables e below F (T.setTop (mkF m pc' L (.int v :: rest)))) : Gt p.tables e below F (T.setTop (mkF m pc L (.int y :: .int x :: rest))) := by
  subst hp; exact (by subst hv; exact k.go fun t q => iremM X hx rfl (hb hby hd) rfl hy q)
theorem own_ldiv (X : Stand p l e R s m args below meth c T locs cells slots) (hx : p.tables.exec = Jvm.exec) (hby : c.code = B) {x y v : Int64} (hy : y ≠ 0) (hv : x / y = v) (hd : decode B pc = .ok (.ldiv, 1)) (hp : pc + 1 = pc') (k : Gt p.tables e below F (T.setTop (mkF m pc' L (.long v :: rest)))) : Gt p.tables e below F (T.setTop (mkF m pc L (.long y :: .long x :: rest))) := by
  subst hp; exact (by subst hv; exact k.go fun t q => XS.ldiv X.here hx rfl (hb hby hd) rfl hy q)
theorem own_lrem (X : Stand p l e R s m args below meth c T locs cells slots) (hx : p.tables.exec = Jvm.exec) (hby : c.code = B) {x y v : Int64} (hy : y ≠ 0) (hv : x % y = v) (hd : decode B pc = .ok (.lrem, 1)) (hp : pc + 1 = pc') (k : Gt p.tables e below F (T.setTop (mkF m pc' L (.long v :: rest)))) : Gt p.tables e below F (T.setTop (mkF m pc L (.long y :: .long x :: rest))) := by
  subst hp; exact (by subst hv; rw [← lrem_mod] at k; exact k.go fun t q => XS.lrem X.here hx rfl (hb hby hd) rfl hy q)
theorem own_lcmp (X : Stand p l e R s m args below meth c T locs cells slots) (hx : p.tables.exec = Jvm.exec) (hby : c.code = B) {x y : Int64} {v : Int32} (hv : (if x > y then 1 else if x = y then 0 else -1 : Int32) = v) (hd : decode B pc = .ok (.lcmp, 1)) (hp : pc + 1 = pc') (k : Gt p.tables e below F (T.setTop (mkF m pc' L (.int v :: rest)))) : Gt p.tables e below F (T.setTop (mkF m pc L (.long y :: .long x :: rest))) := by
  subst hp; exact (by subst hv; exact k.go fun t q => XS.lcmp X.here hx rfl (hb hby hd) rfl q)
theorem own_ineg (X : Stand p l e R s m args below meth c T locs cells slots) (hx : p.tables.exec = Jvm.exec) (hby : c.code = B) {x v : Int32} (hv : -x = v) (hd : decode B pc = .ok (.ineg, 1)) (hp : pc + 1 = pc') (k : Gt p.tables e below F (T.setTop (mkF m pc' L (.int v :: rest)))) : Gt p.tables e below F (T.setTop (mkF m pc L (.int x :: rest))) := by
  subst hp; exact (by subst hv; exact k.go fun t q => XS.ineg X.here hx rfl (hb hby hd) rfl q)
theorem own_lneg (X : Stand p l e R s m args below meth c T locs cells slots) (hx : p.tables.exec = Jvm.exec) (hby : c.code = B) {x v : Int64} (hv : -x = v) (hd : decode B pc = .ok (.lneg, 1)) (hp : pc + 1 = pc') (k : Gt p.tables e below F (T.setTop (mkF m pc' L (.long v :: rest)))) : Gt p.tables e below F (T.setTop (mkF m pc L (.long x :: rest))) := by
  subst hp; exact (by subst hv; exact k.go fun t q => XS.lneg X.here hx rfl (hb hby hd) rfl q)
theorem own_i2b (X : Stand p l e R s m args below meth c T locs cells slots) (hx : p.tables.exec = Jvm.exec) (hby : c.code = B) {x v : Int32} (hv : x.toInt8.toInt32 = v) (hd : decode B pc = .ok (.i2b, 1)) (hp : pc + 1 = pc') (k : Gt p.tables e below F (T.setTop (mkF m pc' L (.int v :: rest)))) : Gt p.tables e below F (T.setTop (mkF m pc L (.int x :: rest))) := by
  subst hp; exact (by subst hv; exact k.go fun t q => XS.i2b X.here hx rfl (hb hby hd) rfl q)
theorem own_i2c (X : Stand p l e R s m args below meth c T locs cells slots) (hx : p.tables.exec = Jvm.exec) (hby : c.code = B) {x v : Int32} (hv : x.toUInt32.toUInt16.toUInt32.toInt32 = v) (hd : decode B pc = .ok (.i2c, 1)) (hp : pc + 1 = pc') (k : Gt p.tables e below F (T.setTop (mkF m pc' L (.int v :: rest)))) : Gt p.tables e below F (T.setTop (mkF m pc L (.int x :: rest))) := by
  subst hp; exact (by subst hv; exact k.go fun t q => XS.i2c X.here hx rfl (hb hby hd) rfl q)
theorem own_i2s (X : Stand p l e R s m args below meth c T locs cells slots) (hx : p.tables.exec = Jvm.exec) (hby : c.code = B) {x v : Int32} (hv : x.toInt16.toInt32 = v) (hd : decode B pc = .ok (.i2s, 1)) (hp : pc + 1 = pc') (k : Gt p.tables e below F (T.setTop (mkF m pc' L (.int v :: rest)))) : Gt p.tables e below F (T.setTop (mkF m pc L (.int x :: rest))) := by
  subst hp; exact (by subst hv; exact k.go fun t q => XS.i2s X.here hx rfl (hb hby hd) rfl q)
theorem own_i2l (X : Stand p l e R s m args below meth c T locs cells slots) (hx : p.tables.exec = Jvm.exec) (hby : c.code = B) {x : Int32} {v : Int64} (hv : x.toInt64 = v) (hd : decode B pc = .ok (.i2l, 1)) (hp : pc + 1 = pc') (k : Gt p.tables e below F (T.setTop (mkF m pc' L (.long v :: rest)))) : Gt p.tables e below F (T.setTop (mkF m pc L (.int x :: rest))) := by
  subst hp; exact (by subst hv; exact k.go fun t q => XS.i2l X.here hx rfl (hb hby hd) rfl q)
theorem own_l2i (X : Stand p l e R s m args below meth c T locs cells slots) (hx : p.tables.exec = Jvm.exec) (hby : c.code = B) {x : Int64} {v : Int32} (hv : x.toInt32 = v) (hd : decode B pc = .ok (.l2i, 1)) (hp : pc + 1 = pc') (k : Gt p.tables e below F (T.setTop (mkF m pc' L (.int v :: rest)))) : Gt p.tables e below F (T.setTop (mkF m pc L (.long x :: rest))) := by
  subst hp; exact (by subst hv; exact k.go fun t q => XS.l2i X.here hx rfl (hb hby hd) rfl q)
theorem own_iload (X : Stand p l e R s m args below meth c T locs cells slots) (hx : p.tables.exec = Jvm.exec) (hby : c.code = B) {i : Nat} {v : Int32} (hl : L[i]? = some (.val (.int v))) (hd : decode B pc = .ok (.iload i, 2)) (hp : pc + 2 = pc') (k : Gt p.tables e below F (T.setTop (mkF m pc' L (.int v :: rest)))) : Gt p.tables e below F (T.setTop (mkF m pc L rest)) := by
  subst hp; exact k.go fun t q => XS.iload X.here hx rfl (hb hby hd) hl q
theorem own_iloadN (X : Stand p l e R s m args below meth c T locs cells slots) (hx : p.tables.exec = Jvm.exec) (hby : c.code = B) {i : Fin 4} {v : Int32} (hl : L[i.val]? = some (.val (.int v))) (hd : decode B pc = .ok (.iload_n i, 1)) (hp : pc + 1 = pc') (k : Gt p.tables e below F (T.setTop (mkF m pc' L (.int v :: rest)))) : Gt p.tables e below F (T.setTop (mkF m pc L rest)) := by
  subst hp; exact k.go fun t q => XS.iloadN X.here hx rfl (hb hby hd) hl q
theorem own_lload (X : Stand p l e R s m args below meth c T locs cells slots) (hx : p.tables.exec = Jvm.exec) (hby : c.code = B) {i : Nat} {v : Int64} (hl : L[i]? = some (.val (.long v))) (hd : decode B pc = .ok (.lload i, 2)) (hp : pc + 2 = pc') (k : Gt p.tables e below F (T.setTop (mkF m pc' L (.long v :: rest)))) : Gt p.tables e below F (T.setTop (mkF m pc L rest)) := by
  subst hp; exact k.go fun t q => XS.lload X.here hx rfl (hb hby hd) hl q
theorem own_lloadN (X : Stand p l e R s m args below meth c T locs cells slots) (hx : p.tables.exec = Jvm.exec) (hby : c.code = B) {i : Fin 4} {v : Int64} (hl : L[i.val]? = some (.val (.long v))) (hd : decode B pc = .ok (.lload_n i, 1)) (hp : pc + 1 = pc') (k : Gt p.tables e below F (T.setTop (mkF m pc' L (.long v :: rest)))) : Gt p.tables e below F (T.setTop (mkF m pc L rest)) := by
  subst hp; exact k.go fun t q => XS.lloadN X.here hx rfl (hb hby hd) hl q
theorem own_dload (X : Stand p l e R s m args below meth c T locs cells slots) (hx : p.tables.exec = Jvm.exec) (hby : c.code = B) {i : Nat} {v : UInt64} (hl : L[i]? = some (.val (.double v))) (hd : decode B pc = .ok (.dload i, 2)) (hp : pc + 2 = pc') (k : Gt p.tables e below F (T.setTop (mkF m pc' L (.double v :: rest)))) : Gt p.tables e below F (T.setTop (mkF m pc L rest)) := by
  subst hp; exact k.go fun t q => XS.dload X.here hx rfl (hb hby hd) hl q
theorem own_dloadN (X : Stand p l e R s m args below meth c T locs cells slots) (hx : p.tables.exec = Jvm.exec) (hby : c.code = B) {i : Fin 4} {v : UInt64} (hl : L[i.val]? = some (.val (.double v))) (hd : decode B pc = .ok (.dload_n i, 1)) (hp : pc + 1 = pc') (k : Gt p.tables e below F (T.setTop (mkF m pc' L (.double v :: rest)))) : Gt p.tables e below F (T.setTop (mkF m pc L rest)) := by
  subst hp; exact k.go fun t q => XS.dloadN X.here hx rfl (hb hby hd) hl q
theorem own_aload (X : Stand p l e R s m args below meth c T locs cells slots) (hx : p.tables.exec = Jvm.exec) (hby : c.code = B) {i : Nat} {v : Value} (hl : L[i]? = some (.val v)) (hr : v.isRef = true) (hd : decode B pc = .ok (.aload i, 2)) (hp : pc + 2 = pc') (k : Gt p.tables e below F (T.setTop (mkF m pc' L (v :: rest)))) : Gt p.tables e below F (T.setTop (mkF m pc L rest)) := by
  subst hp; exact k.go fun t q => XS.aload X.here hx rfl (hb hby hd) hl hr q
theorem own_aloadN (X : Stand p l e R s m args below meth c T locs cells slots) (hx : p.tables.exec = Jvm.exec) (hby : c.code = B) {i : Fin 4} {v : Value} (hl : L[i.val]? = some (.val v)) (hr : v.isRef = true) (hd : decode B pc = .ok (.aload_n i, 1)) (hp : pc + 1 = pc') (k : Gt p.tables e below F (T.setTop (mkF m pc' L (v :: rest)))) : Gt p.tables e below F (T.setTop (mkF m pc L rest)) := by
  subst hp; exact k.go fun t q => XS.aloadN X.here hx rfl (hb hby hd) hl hr q
theorem own_istore (X : Stand p l e R s m args below meth c T locs cells slots) (hx : p.tables.exec = Jvm.exec) (hby : c.code = B) {i : Nat} {v : Int32} (hl : storeLocals L i (.int v) = some L') (hd : decode B pc = .ok (.istore i, 2)) (hp : pc + 2 = pc') (k : Gt p.tables e below F (T.setTop (mkF m pc' L' rest))) : Gt p.tables e below F (T.setTop (mkF m pc L (.int v :: rest))) := by
  subst hp; exact k.go fun t q => XS.istore X.here hx rfl (hb hby hd) rfl hl q
theorem own_istoreN (X : Stand p l e R s m args below meth c T locs cells slots) (hx : p.tables.exec = Jvm.exec) (hby : c.code = B) {i : Fin 4} {v : Int32} (hl : storeLocals L i.val (.int v) = some L') (hd : decode B pc = .ok (.istore_n i, 1)) (hp : pc + 1 = pc') (k : Gt p.tables e below F (T.setTop (mkF m pc' L' rest))) : Gt p.tables e below F (T.setTop (mkF m pc L (.int v :: rest))) := by
  subst hp; exact k.go fun t q => XS.istoreN X.here hx rfl (hb hby hd) rfl hl q
theorem own_lstore (X : Stand p l e R s m args below meth c T locs cells slots) (hx : p.tables.exec = Jvm.exec) (hby : c.code = B) {i : Nat} {v : Int64} (hl : storeLocals L i (.long v) = some L') (hd : decode B pc = .ok (.lstore i, 2)) (hp : pc + 2 = pc') (k : Gt p.tables e below F (T.setTop (mkF m pc' L' rest))) : Gt p.tables e below F (T.setTop (mkF m pc L (.long v :: rest))) := by
  subst hp; exact k.go fun t q => XS.lstore X.here hx rfl (hb hby hd) rfl hl q
theorem own_lstoreN (X : Stand p l e R s m args below meth c T locs cells slots) (hx : p.tables.exec = Jvm.exec) (hby : c.code = B) {i : Fin 4} {v : Int64} (hl : storeLocals L i.val (.long v) = some L') (hd : decode B pc = .ok (.lstore_n i, 1)) (hp : pc + 1 = pc') (k : Gt p.tables e below F (T.setTop (mkF m pc' L' rest))) : Gt p.tables e below F (T.setTop (mkF m pc L (.long v :: rest))) := by
  subst hp; exact k.go fun t q => XS.lstoreN X.here hx rfl (hb hby hd) rfl hl q
theorem own_dstore (X : Stand p l e R s m args below meth c T locs cells slots) (hx : p.tables.exec = Jvm.exec) (hby : c.code = B) {i : Nat} {v : UInt64} (hl : storeLocals L i (.double v) = some L') (hd : decode B pc = .ok (.dstore i, 2)) (hp : pc + 2 = pc') (k : Gt p.tables e below F (T.setTop (mkF m pc' L' rest))) : Gt p.tables e below F (T.setTop (mkF m pc L (.double v :: rest))) := by
  subst hp; exact k.go fun t q => XS.dstore X.here hx rfl (hb hby hd) rfl hl q
theorem own_dstoreN (X : Stand p l e R s m args below meth c T locs cells slots) (hx : p.tables.exec = Jvm.exec) (hby : c.code = B) {i : Fin 4} {v : UInt64} (hl : storeLocals L i.val (.double v) = some L') (hd : decode B pc = .ok (.dstore_n i, 1)) (hp : pc + 1 = pc') (k : Gt p.tables e below F (T.setTop (mkF m pc' L' rest))) : Gt p.tables e below F (T.setTop (mkF m pc L (.double v :: rest))) := by
  subst hp; exact k.go fun t q => XS.dstoreN X.here hx rfl (hb hby hd) rfl hl q
theorem own_astore (X : Stand p l e R s m args below meth c T locs cells slots) (hx : p.tables.exec = Jvm.exec) (hby : c.code = B) {i : Nat} {v : Value} (hr : v.isRef = true) (hl : storeLocals L i v = some L') (hd : decode B pc = .ok (.astore i, 2)) (hp : pc + 2 = pc') (k : Gt p.tables e below F (T.setTop (mkF m pc' L' rest))) : Gt p.tables e below F (T.setTop (mkF m pc L (v :: rest))) := by
  subst hp; exact k.go fun t q => XS.astore X.here hx rfl (hb hby hd) rfl hr hl q
theorem own_astoreN (X : Stand p l e R s m args below meth c T locs cells slots) (hx : p.tables.exec = Jvm.exec) (hby : c.code = B) {i : Fin 4} {v : Value} (hr : v.isRef = true) (hl : storeLocals L i.val v = some L') (hd : decode B pc = .ok (.astore_n i, 1)) (hp : pc + 1 = pc') (k : Gt p.tables e below F (T.setTop (mkF m pc' L' rest))) : Gt p.tables e below F (T.setTop (mkF m pc L (v :: rest))) := by
  subst hp; exact k.go fun t q => XS.astoreN X.here hx rfl (hb hby hd) rfl hr hl q
theorem own_iinc (X : Stand p l e R s m args below meth c T locs cells slots) (hx : p.tables.exec = Jvm.exec) (hby : c.code = B) {i : Nat} {cst : Int} {x : Int32} (hl : L[i]? = some (.val (.int x))) (hl' : storeLocals L i (.int (x + Int32.ofInt cst)) = some L') (hd : decode B pc = .ok (.iinc i cst, 3)) (hp : pc + 3 = pc') (k : Gt p.tables e below F (T.setTop (mkF m pc' L' rest))) : Gt p.tables e below F (T.setTop (mkF m pc L rest)) := by
  subst hp; exact k.go fun t q => XS.iinc X.here hx rfl (hb hby hd) hl hl' q
theorem own_iconst (X : Stand p l e R s m args below meth c T locs cells slots) (hx : p.tables.exec = Jvm.exec) (hby : c.code = B) {i : Int} {v : Int32} (hv : Int32.ofInt i = v) (hd : decode B pc = .ok (.iconst i, 1)) (hp : pc + 1 = pc') (k : Gt p.tables e below F (T.setTop (mkF m pc' L (.int v :: rest)))) : Gt p.tables e below F (T.setTop (mkF m pc L rest)) := by
  subst hp; exact (by subst hv; exact k.go fun t q => XS.iconst X.here hx rfl (hb hby hd) q)
theorem own_bipush (X : Stand p l e R s m args below meth c T locs cells slots) (hx : p.tables.exec = Jvm.exec) (hby : c.code = B) {i : Int} {v : Int32} (hv : (Int8.ofInt i).toInt32 = v) (hd : decode B pc = .ok (.bipush i, 2)) (hp : pc + 2 = pc') (k : Gt p.tables e below F (T.setTop (mkF m pc' L (.int v :: rest)))) : Gt p.tables e below F (T.setTop (mkF m pc L rest)) := by
  subst hp; exact (by subst hv; exact k.go fun t q => XS.bipush X.here hx rfl (hb hby hd) q)
theorem own_sipush (X : Stand p l e R s m args below meth c T locs cells slots) (hx : p.tables.exec = Jvm.exec) (hby : c.code = B) {i : Int} {v : Int32} (hv : (Int16.ofInt i).toInt32 = v) (hd : decode B pc = .ok (.sipush i, 3)) (hp : pc + 3 = pc') (k : Gt p.tables e below F (T.setTop (mkF m pc' L (.int v :: rest)))) : Gt p.tables e below F (T.setTop (mkF m pc L rest)) := by
  subst hp; exact (by subst hv; exact k.go fun t q => XS.sipush X.here hx rfl (hb hby hd) q)
theorem own_lconst (X : Stand p l e R s m args below meth c T locs cells slots) (hx : p.tables.exec = Jvm.exec) (hby : c.code = B) {i : Fin 2} {v : Int64} (hv : Int64.ofNat i = v) (hd : decode B pc = .ok (.lconst i, 1)) (hp : pc + 1 = pc') (k : Gt p.tables e below F (T.setTop (mkF m pc' L (.long v :: rest)))) : Gt p.tables e below F (T.setTop (mkF m pc L rest)) := by
  subst hp; exact (by subst hv; exact k.go fun t q => XS.lconst X.here hx rfl (hb hby hd) q)
theorem own_aconst (X : Stand p l e R s m args below meth c T locs cells slots) (hx : p.tables.exec = Jvm.exec) (hby : c.code = B)  (hd : decode B pc = .ok (.aconst_null, 1)) (hp : pc + 1 = pc') (k : Gt p.tables e below F (T.setTop (mkF m pc' L (.null :: rest)))) : Gt p.tables e below F (T.setTop (mkF m pc L rest)) := by
  subst hp; exact k.go fun t q => XS.aconstNull X.here hx rfl (hb hby hd) q
theorem own_dconst0 (X : Stand p l e R s m args below meth c T locs cells slots) (hx : p.tables.exec = Jvm.exec) (hby : c.code = B) {v : UInt64} (hv : FP.dconst0 = v) (hd : decode B pc = .ok (.dconst 0, 1)) (hp : pc + 1 = pc') (k : Gt p.tables e below F (T.setTop (mkF m pc' L (.double v :: rest)))) : Gt p.tables e below F (T.setTop (mkF m pc L rest)) := by
  subst hp; exact k.go fun t q => XS.dconst0 X.here hx rfl (hb hby hd) hv q
theorem own_dconst1 (X : Stand p l e R s m args below meth c T locs cells slots) (hx : p.tables.exec = Jvm.exec) (hby : c.code = B) {v : UInt64} (hv : FP.dconst1 = v) (hd : decode B pc = .ok (.dconst 1, 1)) (hp : pc + 1 = pc') (k : Gt p.tables e below F (T.setTop (mkF m pc' L (.double v :: rest)))) : Gt p.tables e below F (T.setTop (mkF m pc L rest)) := by
  subst hp; exact k.go fun t q => XS.dconst1 X.here hx rfl (hb hby hd) hv q
theorem own_dadd (X : Stand p l e R s m args below meth c T locs cells slots) (hx : p.tables.exec = Jvm.exec) (hby : c.code = B) {x y v : UInt64} (hn : NoNaN64 (FP.dadd x y)) (hv : FP.dadd x y = v) (hd : decode B pc = .ok (.dadd, 1)) (hp : pc + 1 = pc') (k : Gt p.tables e below F (T.setTop (mkF m pc' L (.double v :: rest)))) : Gt p.tables e below F (T.setTop (mkF m pc L (.double y :: .double x :: rest))) := by
  subst hp; exact k.go fun t q => XS.daddS X.here hx rfl (hb hby hd) rfl hn hv q
theorem own_dsub (X : Stand p l e R s m args below meth c T locs cells slots) (hx : p.tables.exec = Jvm.exec) (hby : c.code = B) {x y v : UInt64} (hn : NoNaN64 (FP.dsub x y)) (hv : FP.dsub x y = v) (hd : decode B pc = .ok (.dsub, 1)) (hp : pc + 1 = pc') (k : Gt p.tables e below F (T.setTop (mkF m pc' L (.double v :: rest)))) : Gt p.tables e below F (T.setTop (mkF m pc L (.double y :: .double x :: rest))) := by
  subst hp; exact k.go fun t q => XS.dsubS X.here hx rfl (hb hby hd) rfl hn hv q
theorem own_dmul (X : Stand p l e R s m args below meth c T locs cells slots) (hx : p.tables.exec = Jvm.exec) (hby : c.code = B) {x y v : UInt64} (hn : NoNaN64 (FP.dmul x y)) (hv : FP.dmul x y = v) (hd : decode B pc = .ok (.dmul, 1)) (hp : pc + 1 = pc') (k : Gt p.tables e below F (T.setTop (mkF m pc' L (.double v :: rest)))) : Gt p.tables e below F (T.setTop (mkF m pc L (.double y :: .double x :: rest))) := by
  subst hp; exact k.go fun t q => XS.dmulS X.here hx rfl (hb hby hd) rfl hn hv q
theorem own_ddiv (X : Stand p l e R s m args below meth c T locs cells slots) (hx : p.tables.exec = Jvm.exec) (hby : c.code = B) {x y v : UInt64} (hn : NoNaN64 (FP.ddiv x y)) (hv : FP.ddiv x y = v) (hd : decode B pc = .ok (.ddiv, 1)) (hp : pc + 1 = pc') (k : Gt p.tables e below F (T.setTop (mkF m pc' L (.double v :: rest)))) : Gt p.tables e below F (T.setTop (mkF m pc L (.double y :: .double x :: rest))) := by
  subst hp; exact k.go fun t q => XS.ddivS X.here hx rfl (hb hby hd) rfl hn hv q
theorem own_dneg (X : Stand p l e R s m args below meth c T locs cells slots) (hx : p.tables.exec = Jvm.exec) (hby : c.code = B) {x v : UInt64} (hv : FP.dneg x = v) (hd : decode B pc = .ok (.dneg, 1)) (hp : pc + 1 = pc') (k : Gt p.tables e below F (T.setTop (mkF m pc' L (.double v :: rest)))) : Gt p.tables e below F (T.setTop (mkF m pc L (.double x :: rest))) := by
  subst hp; exact k.go fun t q => XS.dnegS X.here hx rfl (hb hby hd) rfl hv q
theorem own_dcmp (X : Stand p l e R s m args below meth c T locs cells slots) (hx : p.tables.exec = Jvm.exec) (hby : c.code = B) {o : CmpOp} {x y : UInt64} {v : Int32} (hv : cmpValue (FP.dcmp x y) o = v) (hd : decode B pc = .ok (.dcmp o, 1)) (hp : pc + 1 = pc') (k : Gt p.tables e below F (T.setTop (mkF m pc' L (.int v :: rest)))) : Gt p.tables e below F (T.setTop (mkF m pc L (.double y :: .double x :: rest))) := by
  subst hp; exact k.go fun t q => XS.dcmpS X.here hx rfl (hb hby hd) rfl hv q
theorem own_i2d (X : Stand p l e R s m args below meth c T locs cells slots) (hx : p.tables.exec = Jvm.exec) (hby : c.code = B) {x : Int32} {v : UInt64} (hv : FP.i2d x = v) (hd : decode B pc = .ok (.i2d, 1)) (hp : pc + 1 = pc') (k : Gt p.tables e below F (T.setTop (mkF m pc' L (.double v :: rest)))) : Gt p.tables e below F (T.setTop (mkF m pc L (.int x :: rest))) := by
  subst hp; exact k.go fun t q => XS.i2dS X.here hx rfl (hb hby hd) rfl hv q
theorem own_l2d (X : Stand p l e R s m args below meth c T locs cells slots) (hx : p.tables.exec = Jvm.exec) (hby : c.code = B) {x : Int64} {v : UInt64} (hv : FP.l2d x = v) (hd : decode B pc = .ok (.l2d, 1)) (hp : pc + 1 = pc') (k : Gt p.tables e below F (T.setTop (mkF m pc' L (.double v :: rest)))) : Gt p.tables e below F (T.setTop (mkF m pc L (.long x :: rest))) := by
  subst hp; exact k.go fun t q => XS.l2dS X.here hx rfl (hb hby hd) rfl hv q
theorem own_dup (X : Stand p l e R s m args below meth c T locs cells slots) (hx : p.tables.exec = Jvm.exec) (hby : c.code = B) {x : Value} (hc : x.category = 1) (hd : decode B pc = .ok (.dup, 1)) (hp : pc + 1 = pc') (k : Gt p.tables e below F (T.setTop (mkF m pc' L (x :: x :: rest)))) : Gt p.tables e below F (T.setTop (mkF m pc L (x :: rest))) := by
  subst hp; exact k.go fun t q => XS.dup X.here hx rfl (hb hby hd) rfl hc q
theorem own_pop (X : Stand p l e R s m args below meth c T locs cells slots) (hx : p.tables.exec = Jvm.exec) (hby : c.code = B) {x : Value} (hc : x.category = 1) (hd : decode B pc = .ok (.pop, 1)) (hp : pc + 1 = pc') (k : Gt p.tables e below F (T.setTop (mkF m pc' L rest))) : Gt p.tables e below F (T.setTop (mkF m pc L (x :: rest))) := by
  subst hp; exact k.go fun t q => XS.pop X.here hx rfl (hb hby hd) rfl hc q
theorem own_dupX1 (X : Stand p l e R s m args below meth c T locs cells slots) (hx : p.tables.exec = Jvm.exec) (hby : c.code = B) {x y : Value} (hc : x.category = 1) (hc' : y.category = 1) (hd : decode B pc = .ok (.dup_x1, 1)) (hp : pc + 1 = pc') (k : Gt p.tables e below F (T.setTop (mkF m pc' L (x :: y :: x :: rest)))) : Gt p.tables e below F (T.setTop (mkF m pc L (x :: y :: rest))) := by
  subst hp; exact k.go fun t q => XS.dupX1 X.here hx rfl (hb hby hd) rfl hc hc' q
theorem own_dup2 (X : Stand p l e R s m args below meth c T locs cells slots) (hx : p.tables.exec = Jvm.exec) (hby : c.code = B) {x y : Value} (hc : x.category = 1) (hc' : y.category = 1) (hd : decode B pc = .ok (.dup2, 1)) (hp : pc + 1 = pc') (k : Gt p.tables e below F (T.setTop (mkF m pc' L (x :: y :: x :: y :: rest)))) : Gt p.tables e below F (T.setTop (mkF m pc L (x :: y :: rest))) := by
  subst hp; exact k.go fun t q => Jvm.Free.XT.dup2 X.here hx rfl (hb hby hd) rfl hc hc' q
theorem own_goto (X : Stand p l e R s m args below meth c T locs cells slots) (hx : p.tables.exec = Jvm.exec) (hby : c.code = B) {o : Int} (hd : decode B pc = .ok (.goto o, 3)) (ho : 0 ≤ (pc : Int) + o) (hp : ((pc : Int) + o).toNat = pc') (k : Gt p.tables e below F (T.setTop (mkF m pc' L rest))) : Gt p.tables e below F (T.setTop (mkF m pc L rest)) :=
  k.go fun t q => XS.goto X.here hx rfl rfl (hb hby hd) ho hp q
theorem own_ifT (X : Stand p l e R s m args below meth c T locs cells slots) (hx : p.tables.exec = Jvm.exec) (hby : c.code = B) {cd : ClassFile.Cond} {x : Int32} {o : Int} (hd : decode B pc = .ok (.ifCond cd o, 3)) (hc : ifCond.holds cd x = true) (ho : 0 ≤ (pc : Int) + o) (hp : ((pc : Int) + o).toNat = pc') (k : Gt p.tables e below F (T.setTop (mkF m pc' L rest))) : Gt p.tables e below F (T.setTop (mkF m pc L (.int x :: rest))) :=
  k.go fun t q => XS.ifYes X.here hx rfl rfl (hb hby hd) rfl hc ho hp q
theorem own_ifF (X : Stand p l e R s m args below meth c T locs cells slots) (hx : p.tables.exec = Jvm.exec) (hby : c.code = B) {cd : ClassFile.Cond} {x : Int32} {o : Int} (hd : decode B pc = .ok (.ifCond cd o, 3)) (hc : ifCond.holds cd x = false) (hp : pc + 3 = pc') (k : Gt p.tables e below F (T.setTop (mkF m pc' L rest))) : Gt p.tables e below F (T.setTop (mkF m pc L (.int x :: rest))) := by
  subst hp; exact k.go fun t q => XS.ifNo X.here hx rfl (hb hby hd) rfl hc q
theorem own_icT (X : Stand p l e R s m args below meth c T locs cells slots) (hx : p.tables.exec = Jvm.exec) (hby : c.code = B) {cd : ClassFile.Cond} {x y : Int32} {o : Int} (hd : decode B pc = .ok (.if_icmp cd o, 3)) (hc : if_icmp.holds cd x y = true) (ho : 0 ≤ (pc : Int) + o) (hp : ((pc : Int) + o).toNat = pc') (k : Gt p.tables e below F (T.setTop (mkF m pc' L rest))) : Gt p.tables e below F (T.setTop (mkF m pc L (.int y :: .int x :: rest))) :=
  k.go fun t q => XS.icmpYes X.here hx rfl rfl (hb hby hd) rfl hc ho hp q
theorem own_icF (X : Stand p l e R s m args below meth c T locs cells slots) (hx : p.tables.exec = Jvm.exec) (hby : c.code = B) {cd : ClassFile.Cond} {x y : Int32} {o : Int} (hd : decode B pc = .ok (.if_icmp cd o, 3)) (hc : if_icmp.holds cd x y = false) (hp : pc + 3 = pc') (k : Gt p.tables e below F (T.setTop (mkF m pc' L rest))) : Gt p.tables e below F (T.setTop (mkF m pc L (.int y :: .int x :: rest))) := by
  subst hp; exact k.go fun t q => XS.icmpNo X.here hx rfl (hb hby hd) rfl hc q
theorem own_ifnullT (X : Stand p l e R s m args below meth c T locs cells slots) (hx : p.tables.exec = Jvm.exec) (hby : c.code = B) {o : Int} (hd : decode B pc = .ok (.ifnull o, 3)) (ho : 0 ≤ (pc : Int) + o) (hp : ((pc : Int) + o).toNat = pc') (k : Gt p.tables e below F (T.setTop (mkF m pc' L rest))) : Gt p.tables e below F (T.setTop (mkF m pc L (.null :: rest))) :=
  k.go fun t q => XS.ifnullYes X.here hx rfl rfl (hb hby hd) rfl ho hp q
theorem own_ifnullF (X : Stand p l e R s m args below meth c T locs cells slots) (hx : p.tables.exec = Jvm.exec) (hby : c.code = B) {o : Int} {b : Addr} (hd : decode B pc = .ok (.ifnull o, 3)) (hp : pc + 3 = pc') (k : Gt p.tables e below F (T.setTop (mkF m pc' L rest))) : Gt p.tables e below F (T.setTop (mkF m pc L (.ref b :: rest))) := by
  subst hp; exact k.go fun t q => XS.ifnullNo X.here hx rfl (hb hby hd) rfl q
theorem own_ifnonnullT (X : Stand p l e R s m args below meth c T locs cells slots) (hx : p.tables.exec = Jvm.exec) (hby : c.code = B) {o : Int} {b : Addr} (hd : decode B pc = .ok (.ifnonnull o, 3)) (ho : 0 ≤ (pc : Int) + o) (hp : ((pc : Int) + o).toNat = pc') (k : Gt p.tables e below F (T.setTop (mkF m pc' L rest))) : Gt p.tables e below F (T.setTop (mkF m pc L (.ref b :: rest))) :=
  k.go fun t q => XS.ifnonnullYes X.here hx rfl rfl (hb hby hd) rfl ho hp q
theorem own_ifnonnullF (X : Stand p l e R s m args below meth c T locs cells slots) (hx : p.tables.exec = Jvm.exec) (hby : c.code = B) {o : Int} (hd : decode B pc = .ok (.ifnonnull o, 3)) (hp : pc + 3 = pc') (k : Gt p.tables e below F (T.setTop (mkF m pc' L rest))) : Gt p.tables e below F (T.setTop (mkF m pc L (.null :: rest))) := by
  subst hp; exact k.go fun t q => XS.ifnonnullNo X.here hx rfl (hb hby hd) rfl q
theorem own_acmp (X : Stand p l e R s m args below meth c T locs cells slots) (hx : p.tables.exec = Jvm.exec) (hby : c.code = B) {cd : ACond} {x y : Value} (h1 : x.isRef = true) (h2 : y.isRef = true) {o : Int} {same : Bool} (hd : decode B pc = .ok (.if_acmp cd o, 3)) (hq : decide (x = y) = same) (ho : 0 ≤ (pc : Int) + o) (hp : pc' = if acV cd same = true then ((pc : Int) + o).toNat else pc + 3) (k : Gt p.tables e below F (T.setTop (mkF m pc' L rest))) : Gt p.tables e below F (T.setTop (mkF m pc L (y :: x :: rest))) :=
  k.go fun t q => Jvm.RoadKit.acmp X hx rfl h1 h2 rfl (hb hby hd) rfl hq ho hp q
theorem own_ldcI (X : Stand p l e R s m args below meth c T locs cells slots) (hx : p.tables.exec = Jvm.exec) (hby : c.code = B) (hZ : Z.Warmed39 s.vm) {own : String} {i : Nat} {v : Int32} (hown : s.vm.findClass own = some m.cls) (w : (Jvm.Cond.constant own i v).before a0 Z = true) (hd : decode B pc = .ok (.ldc i, 2)) (hp : pc + 2 = pc') (k : Gt p.tables e below F (T.setTop (mkF m pc' L (.int v :: rest)))) : Gt p.tables e below F (T.setTop (mkF m pc L rest)) := by
  subst hp; exact k.go (X.ldcInt hx hown (mvT hZ w) (g := mkF m pc L rest) rfl (hb hby hd))
theorem own_ldc2L (X : Stand p l e R s m args below meth c T locs cells slots) (hx : p.tables.exec = Jvm.exec) (hby : c.code = B) (hZ : Z.Warmed39 s.vm) {own : String} {i : Nat} {v : Int64} (hown : s.vm.findClass own = some m.cls) (w : (Jvm.Cond.constantLong own i v).before a0 Z = true) (hd : decode B pc = .ok (.ldc2_w i, 3)) (hp : pc + 3 = pc') (k : Gt p.tables e below F (T.setTop (mkF m pc' L (.long v :: rest)))) : Gt p.tables e below F (T.setTop (mkF m pc L rest)) := by
  subst hp; exact k.go (X.ldc2Long hx hown (mvT hZ w) (g := mkF m pc L rest) rfl (hb hby hd))
theorem own_ldc2D (X : Stand p l e R s m args below meth c T locs cells slots) (hx : p.tables.exec = Jvm.exec) (hby : c.code = B) (hZ : Z.Warmed39 s.vm) {own : String} {i : Nat} {v : UInt64} (hown : s.vm.findClass own = some m.cls) (w : (Jvm.Cond.constantDouble own i v).before a0 Z = true) (hd : decode B pc = .ok (.ldc2_w i, 3)) (hp : pc + 3 = pc') (k : Gt p.tables e below F (T.setTop (mkF m pc' L (.double v :: rest)))) : Gt p.tables e below F (T.setTop (mkF m pc L rest)) := by
  subst hp; exact k.go (X.ldc2DoubleC hx hown (mvT hZ w) (g := mkF m pc L rest) rfl (hb hby hd))
theorem own_getF (X : Stand p l e R s m args below meth c T locs cells slots) (hx : p.tables.exec = Jvm.exec) (hby : c.code = B) (hZ : Z.Warmed39 s.vm) {own R0 O n d host : String} {index : Nat} (hown : s.vm.findClass own = some m.cls) (w : (Jvm.Cond.fieldLink own index R0 n d).before a0 Z = true ∨ (Jvm.Cond.fieldLinkNest own index R0 n d host).before a0 Z = true) (via : Via Z R0 O n d) (eT : T.heap = h) {a : Addr} {v : Value} (Ff : Fld Z h a O n d v) (hd : decode B pc = .ok (.getfield index, 3)) (hp : pc + 3 = pc') (k : ∀ T', Stand p l e R s m args below meth c T' locs cells slots → T'.heap = h → Gt p.tables e below F (T'.setTop (mkF m pc' L (v :: rest)))) : Gt p.tables e below F (T.setTop (mkF m pc L (.ref a :: rest))) := by
  subst hp; obtain ⟨T', X', e', st⟩ := getF X hx hZ hown w via eT Ff (g := mkF m pc L (.ref a :: rest)) rfl rfl (hb hby hd); exact (k T' X' e').go st
theorem own_getS (X : Stand p l e R s m args below meth c T locs cells slots) (hx : p.tables.exec = Jvm.exec) (hby : c.code = B) (hZ : Z.Warmed39 s.vm) {own R0 O n d host : String} {index : Nat} (hown : s.vm.findClass own = some m.cls) (w : (Jvm.Cond.fieldLink own index R0 n d).before a0 Z = true ∨ (Jvm.Cond.fieldLinkNest own index R0 n d host).before a0 Z = true) (via : Via Z R0 O n d) (eT : T.heap = h) {v : Value} (Ff : Sta Z h O n d v) (hd : decode B pc = .ok (.getstatic index, 3)) (hp : pc + 3 = pc') (k : ∀ T', Stand p l e R s m args below meth c T' locs cells slots → T'.heap = h → Gt p.tables e below F (T'.setTop (mkF m pc' L (v :: rest)))) : Gt p.tables e below F (T.setTop (mkF m pc L rest)) := by
  subst hp; obtain ⟨T', X', e', st⟩ := getS2 X hx hZ hown w via eT Ff (g := mkF m pc L rest) rfl (hb hby hd); exact (k T' X' e').go st
theorem own_putF (X : Stand p l e R s m args below meth c T locs cells slots) (hx : p.tables.exec = Jvm.exec) (hby : c.code = B) (hZ : Z.Warmed39 s.vm) {own R0 O n d host C : String} {index kk : Nat} {ty : FieldType} (hown : s.vm.findClass own = some m.cls) (w : (Jvm.Cond.fieldLink own index R0 n d).before a0 Z = true ∨ (Jvm.Cond.fieldLinkNest own index R0 n d host).before a0 Z = true) (via : Via Z R0 O n d) (eT : T.heap = h) {a : Addr} {v old : Value} (Ff : Fld Z h a O n d old) (E : Exa Z h a C) (La : (Jvm.Cond.lays C O n d).before a0 Z = true ∨ ((Jvm.Cond.laysFinal C O n d).before a0 Z = true ∧ own = O ∧ meth.name = "<init>")) (wi : (Jvm.Cond.instantiable C kk).before a0 Z = true) (hty : parseFieldDescriptor d = some ty) (hn : narrow ty v = v) (hf : fits ty v = true) (hd : decode B pc = .ok (.putfield index, 3)) (hp : pc + 3 = pc') (k : ∀ T' h', Stand p l e R s m args below meth c T' (locs ++ [⟨a, Jvm.RoadKit.slotOf Z O n d⟩]) cells slots → T'.heap = h' → Wr h h' a (Jvm.RoadKit.slotOf Z O n d) v → Gt p.tables e below F (T'.setTop (mkF m pc' L rest))) : Gt p.tables e below F (T.setTop (mkF m pc L (v :: .ref a :: rest))) := by
  subst hp; obtain ⟨T', h', X', e', W, st⟩ := putF X hx hZ hown w via eT Ff E La wi hty hn hf (g := mkF m pc L (v :: .ref a :: rest)) rfl rfl (hb hby hd); exact (k T' h' X' e' W).go st
theorem own_newO (X : Stand p l e R s m args below meth c T locs cells slots) (hx : p.tables.exec = Jvm.exec) (hby : c.code = B) (hZ : Z.Warmed39 s.vm) {own C : String} {index n : Nat} (hown : s.vm.findClass own = some m.cls) (w : (Jvm.Cond.classLink own index C).before a0 Z = true) (wi : (Jvm.Cond.instantiable C n).before a0 Z = true) (wz : (Jvm.Cond.initialized C).before a0 Z = true) (eT : T.heap = h) (hd : decode B pc = .ok (.new index, 3)) (hp : pc + 3 = pc') (hc : cells + 1 ≤ R.cells) (hl : slots + n ≤ R.slots) (k : ∀ T' h' a, Stand p l e R s m args below meth c T' locs (cells + 1) (slots + n) → T'.heap = h' → Ext h h' → h.size = a → Exa Z h' a C → (∀ {O nm d : String} {ty : FieldType}, Laid Z a0 C O nm d → parseFieldDescriptor d = some ty → Fld Z h' a O nm d (defaultValue ty)) → Gt p.tables e below F (T'.setTop (mkF m pc' L (.ref a :: rest)))) : Gt p.tables e below F (T.setTop (mkF m pc L rest)) := by
  subst hp; obtain ⟨T', h', X', e', E', A', D', -, st⟩ := newO X hx hZ hown w wi wz eT (g := mkF m pc L rest) rfl (hb hby hd) hc hl; exact (k T' h' _ X' e' E' rfl A' D').go st
theorem own_initO (X : Stand p l e R s m args below meth c T locs cells slots) (hx : p.tables.exec = Jvm.exec) (hby : c.code = B) (hZ : Z.Warmed39 s.vm) {own : String} {idx : Nat} (hown : s.vm.findClass own = some m.cls) (w1 : (Jvm.Cond.methodLink own idx Lib.objectInit).before a0 Z = true) (w2 : (Jvm.Cond.instanceMethod Lib.objectInit).before a0 Z = true) (w3 : (Jvm.Cond.code Lib.objectInit ⟨#[0xb1]⟩ 1 none).before a0 Z = true) (eT : T.heap = h) (hsize : L.size = c.maxLocals) {a : Addr} (hd : decode B pc = .ok (.invokespecial idx, 3)) (hp : pc + 3 = pc') (hf : 1 ≤ R.frames) {W : Nat} (hW : (rest.map fun v => v.category).sum ≤ W) (hl : W + 12 ≤ R.locals) (k : ∀ T', Stand p l e R s m args below meth c T' locs cells slots → T'.heap = h → Gt p.tables e below F (T'.setTop (mkF m pc' L rest))) : Gt p.tables e below F (T.setTop (mkF m pc L (.ref a :: rest))) := by
  subst hp; obtain ⟨T', X', e', st⟩ := initO X hx hZ hown w1 w2 w3 eT (g := mkF m pc L (.ref a :: rest)) rfl hsize rfl (hb hby hd) hf (W := W) (by show 2 * 0 + _ ≤ _; rw [Nat.mul_zero, Nat.zero_add]; exact hW) hl; exact (k T' X' e').go st
theorem own_special (X : Stand p l e R s m args below meth c T locs cells slots) (hx : p.tables.exec = Jvm.exec) (hby : c.code = B) (hZ : Z.Warmed39 s.vm) {own : String} {index : Nat} {y : MethodName} {bytes : ByteArray} {maxL : Nat} {ret : Option FieldType} {rm : Room} {as' : Array Value} {Q : Option Value → Heap → List Loc → Prop} (hy1 : y.name = "<init>") (hown : s.vm.findClass own = some m.cls) (w1 : (Jvm.Cond.methodLink own index y).before a0 Z = true) (w2 : (Jvm.Cond.instanceMethod y).before a0 Z = true) (hret : ret = none) (w3 : (Jvm.Cond.code y bytes maxL ret).before a0 Z = true) (w4 : (Jvm.Cond.initialized y.cls).before a0 Z = true) (hy : y.cls ≠ "java/lang/invoke/MethodHandle" ∧ y.cls ≠ "java/lang/invoke/VarHandle") (hM : MetFree l y (head1 [Jvm.Cond.code y bytes maxL ret] rm) (fun a U => a = as' ∧ Z.Warmed39 U.vm ∧ U.heap = h) (fun _ _ _ _ _ => True) (fun _ U o U' => ∃ v L, o = .returned v ∧ Q v U'.heap L ∧ FrameEnd U o U' L rm.cells rm.slots)) (eT : T.heap = h) (hsize : L.size = c.maxLocals) {a : Addr} {argsL : List Value} (has : as' = (.ref a :: argsL).toArray) (hlen : ∀ sig, parseMethodDescriptor y.desc = some sig → argsL.length = sig.parameters.length) {st : List Value} (hst : st = argsL.reverse ++ .ref a :: rest) (hd : decode B pc = .ok (.invokespecial index, 3)) (hp : pc + 3 = pc') (hf : rm.frames + 1 ≤ R.frames) {W : Nat} (hW : (rest.map fun v => v.category).sum ≤ W) (hl : W + (maxL + 11) + rm.locals ≤ R.locals) (hc : cells + rm.cells ≤ R.cells) (hs : slots + rm.slots ≤ R.slots) (k : ∀ T' h' L' v, Stand p l e R s m args below meth c T' (locs ++ L') (cells + rm.cells) (slots + rm.slots) → T'.heap = h' → Q v h' L' → Gt p.tables e below F (T'.setTop (mkF m pc' L (v.toList ++ rest)))) : Gt p.tables e below F (T.setTop (mkF m pc L st)) := by
  subst hp hret has hst
  obtain ⟨v, vm1, ⟨T', L1, k1, n1⟩, -, X', ⟨Lc, hQ, l1, l2, l3⟩, st⟩ := X.specialBack hx (y := y) hy1 hown (mvT hZ w1) (mvT hZ w2) (mvT hZ w3) hy (backOf (W := W) hM hZ w3 w4 hf hl) (g := mkF m pc L (argsL.reverse ++ .ref a :: rest)) rfl hsize (Steps.refl _) (a := a) (argsL := argsL) (rest := rest) hlen rfl (by show 2 * 0 + _ ≤ _; rw [Nat.mul_zero, Nat.zero_add]; exact hW) (hb hby hd) (fun _ _ => ⟨rfl, eT, hc, hs⟩)
  dsimp only [Pt.U, Pt.locs, Pt.cells, Pt.slots] at X' l1 l2 l3 st hQ
  subst l1 l2 l3
  exact (k T' _ Lc v X' rfl hQ).go fun t q => st.trans q
theorem own_virtual (X : Stand p l e R s m args below meth c T locs cells slots) (hx : p.tables.exec = Jvm.exec) (hby : c.code = B) (hZ : Z.Warmed39 s.vm) {own : String} {index : Nat} {y : MethodName} {bytes : ByteArray} {maxL : Nat} {ret : Option FieldType} {rm : Room} {as' : Array Value} {Q : Option Value → Heap → List Loc → Prop} {C : String} {y' : MethodName} (hown : s.vm.findClass own = some m.cls) (w1 : (Jvm.Cond.methodLink own index y').before a0 Z = true) (w2 : (Jvm.Cond.declares y').before a0 Z = true) (hnf : NotFace s y') (w5 : (Jvm.Cond.selects C y' y).before a0 Z = true) (w6 : (Jvm.Cond.instanceMethod y).before a0 Z = true) (w3 : (Jvm.Cond.code y bytes maxL ret).before a0 Z = true) (w4 : (Jvm.Cond.initialized y.cls).before a0 Z = true) (hy : y'.cls ≠ "java/lang/invoke/MethodHandle" ∧ y'.cls ≠ "java/lang/invoke/VarHandle") (hM : MetFree l y (head1 [Jvm.Cond.code y bytes maxL ret] rm) (fun a U => a = as' ∧ Z.Warmed39 U.vm ∧ U.heap = h) (fun _ _ _ _ _ => True) (fun _ U o U' => ∃ v L, o = .returned v ∧ Q v U'.heap L ∧ FrameEnd U o U' L rm.cells rm.slots)) (eT : T.heap = h) (hsize : L.size = c.maxLocals) {a : Addr} (E : Exa Z h a C) {argsL : List Value} (has : as' = (.ref a :: argsL).toArray) (hlen : ∀ sig, parseMethodDescriptor y'.desc = some sig → argsL.length = sig.parameters.length) {st : List Value} (hst : st = argsL.reverse ++ .ref a :: rest) (hd : decode B pc = .ok (.invokevirtual index, 3)) (hp : pc + 3 = pc') (hf : rm.frames + 1 ≤ R.frames) {W : Nat} (hW : (rest.map fun v => v.category).sum ≤ W) (hl : W + (maxL + 11) + rm.locals ≤ R.locals) (hc : cells + rm.cells ≤ R.cells) (hs : slots + rm.slots ≤ R.slots) (k : ∀ T' h' L' v, Stand p l e R s m args below meth c T' (locs ++ L') (cells + rm.cells) (slots + rm.slots) → T'.heap = h' → Q v h' L' → Gt p.tables e below F (T'.setTop (mkF m pc' L (v.toList ++ rest)))) : Gt p.tables e below F (T.setTop (mkF m pc L st)) := by
  subst hp has hst
  obtain ⟨cq, kq, qa, qb, qc⟩ := isOf hZ eT E
  obtain ⟨v, vm1, ⟨T', L1, k1, n1⟩, -, X', ⟨Lc, hQ, l1, l2, l3⟩, st⟩ := X.virtualBack hx (y := y') (z := y) hown (mvT hZ w1) (mvT hZ w2) hnf (mvT hZ w5) (mvT hZ w6) hy (backOf (W := W) hM hZ w3 w4 hf hl) qa qc (g := mkF m pc L (argsL.reverse ++ .ref a :: rest)) rfl hsize (Steps.refl _) (argsL := argsL) (rest := rest) hlen rfl (by show 2 * 0 + _ ≤ _; rw [Nat.mul_zero, Nat.zero_add]; exact hW) (hb hby hd) (fun _ _ => ⟨rfl, eT, hc, hs⟩)
  dsimp only [Pt.U, Pt.locs, Pt.cells, Pt.slots] at X' l1 l2 l3 st hQ
  subst l1 l2 l3
  exact (k T' _ Lc v X' rfl hQ).go fun t q => st.trans q
theorem own_static (X : Stand p l e R s m args below meth c T locs cells slots) (hx : p.tables.exec = Jvm.exec) (hby : c.code = B) (hZ : Z.Warmed39 s.vm) {own : String} {index : Nat} {y : MethodName} {bytes : ByteArray} {maxL : Nat} {ret : Option FieldType} {rm : Room} {as' : Array Value} {Q : Option Value → Heap → List Loc → Prop} (hown : s.vm.findClass own = some m.cls) (w1 : (Jvm.Cond.methodLink own index y).before a0 Z = true) (w2 : (Jvm.Cond.static y).before a0 Z = true) (w3 : (Jvm.Cond.code y bytes maxL ret).before a0 Z = true) (w4 : (Jvm.Cond.initialized y.cls).before a0 Z = true) (hy : y.cls ≠ "java/lang/invoke/MethodHandle" ∧ y.cls ≠ "java/lang/invoke/VarHandle") (hM : MetFree l y (head1 [Jvm.Cond.code y bytes maxL ret] rm) (fun a U => a = as' ∧ Z.Warmed39 U.vm ∧ U.heap = h) (fun _ _ _ _ _ => True) (fun _ U o U' => ∃ v L, o = .returned v ∧ Q v U'.heap L ∧ FrameEnd U o U' L rm.cells rm.slots)) (eT : T.heap = h) (hsize : L.size = c.maxLocals) {argsL : List Value} (has : as' = argsL.toArray) (hlen : ∀ sig, parseMethodDescriptor y.desc = some sig → argsL.length = sig.parameters.length) {st : List Value} (hst : st = argsL.reverse ++ rest) (hd : decode B pc = .ok (.invokestatic index, 3)) (hp : pc + 3 = pc') (hf : rm.frames + 1 ≤ R.frames) {W : Nat} (hW : (rest.map fun v => v.category).sum ≤ W) (hl : W + (maxL + 11) + rm.locals ≤ R.locals) (hc : cells + rm.cells ≤ R.cells) (hs : slots + rm.slots ≤ R.slots) (k : ∀ T' h' L' v, Stand p l e R s m args below meth c T' (locs ++ L') (cells + rm.cells) (slots + rm.slots) → T'.heap = h' → Q v h' L' → Gt p.tables e below F (T'.setTop (mkF m pc' L (v.toList ++ rest)))) : Gt p.tables e below F (T.setTop (mkF m pc L st)) := by
  subst hp has hst
  obtain ⟨v, vm1, ⟨T', L1, k1, n1⟩, -, X', ⟨Lc, hQ, l1, l2, l3⟩, st⟩ := Jvm.LawKit.callS X hx (y := y) hown (mvT hZ w1) (mvT hZ w2) (mvT hZ w4) (mvT hZ w3) hy (backOf (W := W) hM hZ w3 w4 hf hl) (g := mkF m pc L (argsL.reverse ++ rest)) rfl hsize (argsL := argsL) (rest := rest) hlen rfl (by show 2 * 0 + _ ≤ _; rw [Nat.mul_zero, Nat.zero_add]; exact hW) (hb hby hd) (fun _ _ => ⟨rfl, eT, hc, hs⟩)
  dsimp only [Pt.U, Pt.locs, Pt.cells, Pt.slots] at X' l1 l2 l3 st hQ
  subst l1 l2 l3
  exact (k T' _ Lc v X' rfl hQ).go fun t q => st _ q
theorem own_private (X : Stand p l e R s m args below meth c T locs cells slots) (hx : p.tables.exec = Jvm.exec) (hby : c.code = B) (hZ : Z.Warmed39 s.vm) {own : String} {index : Nat} {y : MethodName} {bytes : ByteArray} {maxL : Nat} {ret : Option FieldType} {rm : Room} {as' : Array Value} {Q : Option Value → Heap → List Loc → Prop} (hown : s.vm.findClass own = some m.cls) (w1 : (Jvm.Cond.methodLink own index y).before a0 Z = true) (w2 : (Jvm.Cond.instanceMethod y).before a0 Z = true) {ni : Nat} (w5 : (Jvm.Cond.instantiable y.cls ni).before a0 Z = true) (w6 : (Jvm.Cond.privateMethod y).before a0 Z = true) (w3 : (Jvm.Cond.code y bytes maxL ret).before a0 Z = true) (w4 : (Jvm.Cond.initialized y.cls).before a0 Z = true) (hy : y.cls ≠ "java/lang/invoke/MethodHandle" ∧ y.cls ≠ "java/lang/invoke/VarHandle") (hM : MetFree l y (head1 [Jvm.Cond.code y bytes maxL ret] rm) (fun a U => a = as' ∧ Z.Warmed39 U.vm ∧ U.heap = h) (fun _ _ _ _ _ => True) (fun _ U o U' => ∃ v L, o = .returned v ∧ Q v U'.heap L ∧ FrameEnd U o U' L rm.cells rm.slots)) (eT : T.heap = h) (hsize : L.size = c.maxLocals) {a : Addr} (E : Exa Z h a y.cls) {argsL : List Value} (has : as' = (.ref a :: argsL).toArray) (hlen : ∀ sig, parseMethodDescriptor y.desc = some sig → argsL.length = sig.parameters.length) {st : List Value} (hst : st = argsL.reverse ++ .ref a :: rest) (hd : decode B pc = .ok (.invokevirtual index, 3)) (hp : pc + 3 = pc') (hf : rm.frames + 1 ≤ R.frames) {W : Nat} (hW : (rest.map fun v => v.category).sum ≤ W) (hl : W + (maxL + 11) + rm.locals ≤ R.locals) (hc : cells + rm.cells ≤ R.cells) (hs : slots + rm.slots ≤ R.slots) (k : ∀ T' h' L' v, Stand p l e R s m args below meth c T' (locs ++ L') (cells + rm.cells) (slots + rm.slots) → T'.heap = h' → Q v h' L' → Gt p.tables e below F (T'.setTop (mkF m pc' L (v.toList ++ rest)))) : Gt p.tables e below F (T.setTop (mkF m pc L st)) := by
  subst hp has hst
  obtain ⟨cq, q1, q2⟩ := E.cell
  obtain ⟨cI, kI, i1, i2, -, i3, -⟩ := Cond.instantiable_spec (mv (s := s) (args := args) hZ w5)
  have hpr := Cond.privateMethod_at (mvP (s := s) hZ w6 (args := #[]))
  have hsel := Jvm.Stand.selects_self_of_private i1 i2 (Bool.or_eq_false_iff.mp i3).1 hpr (mvT (s := s) (args := args) hZ w2) hy
  obtain ⟨v, vm1, ⟨T', L1, k1, n1⟩, -, X', ⟨Lc, hQ, l1, l2, l3⟩, st⟩ := X.privateBack hx (y := y) hown (mvT hZ w1) (mvT hZ w2) hsel hpr (mvT hZ w3) hy (backOf (W := W) hM hZ w3 w4 hf hl) (g := mkF m pc L (argsL.reverse ++ .ref a :: rest)) rfl hsize (Steps.refl _) (a := a) (by rw [eT]; exact q1) q2 (argsL := argsL) (rest := rest) hlen rfl (by show 2 * 0 + _ ≤ _; rw [Nat.mul_zero, Nat.zero_add]; exact hW) (hb hby hd) (fun _ _ => ⟨rfl, eT, hc, hs⟩)
  dsimp only [Pt.U, Pt.locs, Pt.cells, Pt.slots] at X' l1 l2 l3 st hQ
  subst l1 l2 l3
  exact (k T' _ Lc v X' rfl hQ).go fun t q => st.trans q
theorem own_retV (X : Stand p l e R s m args below meth c T locs cells slots) (hx : p.tables.exec = Jvm.exec) (hby : c.code = B) (hlocks : meth.locks = false) {Q : Option Value → Heap → List Loc → Prop} {kc ks : Nat} (hret : meth.sig.returnType = none) (hd : decode B pc = .ok (.return_, 1)) (hc : cells ≤ kc) (hs : slots ≤ ks) (eT : T.heap = h) (hq : Q none h locs) : Gt p.tables e below (fun o U' => ∃ v Lc, o = .returned v ∧ Q v U'.heap Lc ∧ FrameEnd s o U' Lc kc ks) (T.setTop (mkF m pc L [])) := by
  subst eT
  obtain ⟨fs, hr, hrun, hended, hW, hsame⟩ := X.leave (v := none) (fun _ => rfl) hlocks
  exact ⟨_, _, X.returnOut hx hret (hb hby hd) hr, hrun, hended, _, _, rfl, hq, ⟨_, rfl⟩, hW, hsame.mono hc hs⟩
theorem own_retI (X : Stand p l e R s m args below meth c T locs cells slots) (hx : p.tables.exec = Jvm.exec) (hby : c.code = B) (hlocks : meth.locks = false) {Q : Option Value → Heap → List Loc → Prop} {kc ks : Nat} (hret : meth.sig.returnType = some .int) {z : Int32} (hd : decode B pc = .ok (.ireturn, 1)) (hc : cells ≤ kc) (hs : slots ≤ ks) (eT : T.heap = h) (hq : Q (some (.int z)) h locs) : Gt p.tables e below (fun o U' => ∃ v Lc, o = .returned v ∧ Q v U'.heap Lc ∧ FrameEnd s o U' Lc kc ks) (T.setTop (mkF m pc L (.int z :: rest))) := by
  subst eT
  obtain ⟨fs, hr, hrun, hended, hW, hsame⟩ := X.leave (v := (some (.int z))) (fun h => by rw [hret] at h; cases h) hlocks
  exact ⟨_, _, retOut X hx hret rfl (Or.inl ⟨rfl, Or.inl rfl, z, rfl⟩) (hb hby hd) hr, hrun, hended, _, _, rfl, hq, ⟨_, rfl⟩, hW, hsame.mono hc hs⟩
theorem own_retL (X : Stand p l e R s m args below meth c T locs cells slots) (hx : p.tables.exec = Jvm.exec) (hby : c.code = B) (hlocks : meth.locks = false) {Q : Option Value → Heap → List Loc → Prop} {kc ks : Nat} (hret : meth.sig.returnType = some .long) {z : Int64} (hd : decode B pc = .ok (.lreturn, 1)) (hc : cells ≤ kc) (hs : slots ≤ ks) (eT : T.heap = h) (hq : Q (some (.long z)) h locs) : Gt p.tables e below (fun o U' => ∃ v Lc, o = .returned v ∧ Q v U'.heap Lc ∧ FrameEnd s o U' Lc kc ks) (T.setTop (mkF m pc L (.long z :: rest))) := by
  subst eT
  obtain ⟨fs, hr, hrun, hended, hW, hsame⟩ := X.leave (v := (some (.long z))) (fun h => by rw [hret] at h; cases h) hlocks
  exact ⟨_, _, retOut X hx hret rfl (Or.inr (Or.inl ⟨rfl, rfl, z, rfl⟩)) (hb hby hd) hr, hrun, hended, _, _, rfl, hq, ⟨_, rfl⟩, hW, hsame.mono hc hs⟩
theorem own_retD (X : Stand p l e R s m args below meth c T locs cells slots) (hx : p.tables.exec = Jvm.exec) (hby : c.code = B) (hlocks : meth.locks = false) {Q : Option Value → Heap → List Loc → Prop} {kc ks : Nat} (hret : meth.sig.returnType = some .double) {z : UInt64} (hd : decode B pc = .ok (.dreturn, 1)) (hc : cells ≤ kc) (hs : slots ≤ ks) (eT : T.heap = h) (hq : Q (some (.double z)) h locs) : Gt p.tables e below (fun o U' => ∃ v Lc, o = .returned v ∧ Q v U'.heap Lc ∧ FrameEnd s o U' Lc kc ks) (T.setTop (mkF m pc L (.double z :: rest))) := by
  subst eT
  obtain ⟨fs, hr, hrun, hended, hW, hsame⟩ := X.leave (v := (some (.double z))) (fun h => by rw [hret] at h; cases h) hlocks
  exact ⟨_, _, retOut X hx hret rfl (Or.inr (Or.inr (Or.inl ⟨rfl, rfl, z, rfl⟩))) (hb hby hd) hr, hrun, hended, _, _, rfl, hq, ⟨_, rfl⟩, hW, hsame.mono hc hs⟩
theorem own_retZ (X : Stand p l e R s m args below meth c T locs cells slots) (hx : p.tables.exec = Jvm.exec) (hby : c.code = B) (hlocks : meth.locks = false) {Q : Option Value → Heap → List Loc → Prop} {kc ks : Nat} (hret : meth.sig.returnType = some .boolean) {z : Int32} (hz : z = 0 ∨ z = 1) (hd : decode B pc = .ok (.ireturn, 1)) (hc : cells ≤ kc) (hs : slots ≤ ks) (eT : T.heap = h) (hq : Q (some (.int z)) h locs) : Gt p.tables e below (fun o U' => ∃ v Lc, o = .returned v ∧ Q v U'.heap Lc ∧ FrameEnd s o U' Lc kc ks) (T.setTop (mkF m pc L (.int z :: rest))) := by
  subst eT
  obtain ⟨fs, hr, hrun, hended, hW, hsame⟩ := X.leave (v := (some (.int z))) (fun h => by rw [hret] at h; cases h) hlocks
  exact ⟨_, _, retOut X hx hret (by rcases hz with rfl | rfl <;> rfl) (Or.inl ⟨rfl, Or.inr (Or.inl rfl), z, rfl⟩) (hb hby hd) hr, hrun, hended, _, _, rfl, hq, ⟨_, rfl⟩, hW, hsame.mono hc hs⟩
theorem own_retA (X : Stand p l e R s m args below meth c T locs cells slots) (hx : p.tables.exec = Jvm.exec) (hby : c.code = B) (hlocks : meth.locks = false) {Q : Option Value → Heap → List Loc → Prop} {kc ks : Nat} {t : FieldType} (hret : meth.sig.returnType = some t) (ht : t.isReference = true) {z : Value} (hz : z.isRef = true) (hd : decode B pc = .ok (.areturn, 1)) (hc : cells ≤ kc) (hs : slots ≤ ks) (eT : T.heap = h) (hq : Q (some z) h locs) : Gt p.tables e below (fun o U' => ∃ v Lc, o = .returned v ∧ Q v U'.heap Lc ∧ FrameEnd s o U' Lc kc ks) (T.setTop (mkF m pc L (z :: rest))) := by
  subst eT
  obtain ⟨fs, hr, hrun, hended, hW, hsame⟩ := X.leave (v := (some z)) (fun h => by rw [hret] at h; cases h) hlocks
  exact ⟨_, _, retOut X hx hret (by rcases ref_cases hz with rfl | ⟨a, rfl⟩ <;> cases t <;> simp_all [narrow, FieldType.isReference]) (Or.inr (Or.inr (Or.inr (Or.inr ⟨rfl, ht, hz⟩)))) (hb hby hd) hr, hrun, hended, _, _, rfl, hq, ⟨_, rfl⟩, hW, hsame.mono hc hs⟩
end OwnG
section OwnA
variable {p : Program} {l : Launch} {e : Env} {R : Room} {s : State} {m : MethodId} {args : Array Value} {below : List Frame} {meth : Method} {c : Code} {T : State} {locs : List Loc} {cells slots : Nat} {Z : State} {a0 : Array Value} {h h' : Heap} {B : ByteArray} {pc pc' : Nat} {L L' : Array Slot} {rest : List Value} {F : Outcome → State → Prop} {a b : Addr} {ty : FieldType} {vs : List Value} {P : ClassId → Prop} {sl : Nat} {v : Value} {ws : List Addr}
def tr (_ : ClassId) : Prop := True
/-- an array at a of kind ty whose components are the list vs, of a class with P -/
def Ary (P : ClassId → Prop) (Z : State) (h : Heap) (a : Addr) (ty : FieldType) (vs : List Value) : Prop := ∃ c : Cell, Arr Z h a c ty ∧ P c.cls ∧ c.slots.toList = vs ∧ vs.length < 2 ^ 31
theorem Ary.lt (V : Ary P Z h a ty vs) : a < h.size := by obtain ⟨c, A, -⟩ := V; exact A.lt
theorem Ary.ext (V : Ary P Z h a ty vs) (E : Ext h h') : Ary P Z h' a ty vs := by obtain ⟨c, A, r⟩ := V; exact ⟨c, A.ext E, r⟩
theorem Ary.other (V : Ary P Z h b ty vs) (W : Wr h h' a sl v) (q : b ≠ a) : Ary P Z h' b ty vs := by obtain ⟨c, A, r⟩ := V; exact ⟨c, A.other W q, r⟩
theorem Ary.keep (V : Ary P Z h a ty vs) (K : Keep h h' ws) (q : a ∉ ws) : Ary P Z h' a ty vs := by obtain ⟨c, A, r⟩ := V; exact ⟨c, ⟨K.2.1 a c A.1 q, A.2⟩, r⟩
theorem Ary.set (V : Ary P Z h a ty vs) (W : Wr h h' a sl v) : Ary P Z h' a ty (vs.set sl v) := by
  obtain ⟨c, A, q, r, t⟩ := V
  refine ⟨_, A.same W, q, ?_, by rw [List.length_set]; exact t⟩
  show (c.slots.setIfInBounds sl v).toList = _
  rw [Array.toList_setIfInBounds, r]
theorem Ary.size {cl : Cell} (r : cl.slots.toList = vs) : cl.slots.size = vs.length := by rw [← r]; simp
theorem Ary.inb {cl : Cell} {i : Int32} (r : cl.slots.toList = vs) (hi : ¬ i < 0) (hl : i.toNatClampNeg < vs.length) : ¬ (i < 0 ∨ cl.slots.size ≤ i.toNatClampNeg) := by
  rw [Ary.size r]; intro q; rcases q with q | q
  · exact hi q
  · omega
theorem Ary.at {cl : Cell} {i : Nat} (r : cl.slots.toList = vs) (hg : vs[i]? = some v) : cl.slots[i]? = some v := by
  rw [← hg, ← r]; simp
theorem own_alen (X : Stand p l e R s m args below meth c T locs cells slots) (hx : p.tables.exec = Jvm.exec) (hby : c.code = B) (hZ : Z.Warmed39 s.vm) (eT : T.heap = h) (V : Ary P Z h a ty vs) {z : Int32} (hz : vs.length.toInt32 = z) (hd : decode B pc = .ok (.arraylength, 1)) (hp : pc + 1 = pc') (k : Gt p.tables e below F (T.setTop (mkF m pc' L (.int z :: rest)))) : Gt p.tables e below F (T.setTop (mkF m pc L (.ref a :: rest))) := by
  subst hp hz
  obtain ⟨cl, A, -, r, t⟩ := V
  refine k.go fun t q => X.arraylength hx (by rw [eT]; exact A.1) (State.isArrayOf_alike hZ.alike A.2.1) (g := mkF m pc L (.ref a :: rest)) rfl rfl (hb hby hd) _ ?_
  rw [Ary.size r]; exact q
theorem own_iaload (X : Stand p l e R s m args below meth c T locs cells slots) (hx : p.tables.exec = Jvm.exec) (hby : c.code = B) (hZ : Z.Warmed39 s.vm) (eT : T.heap = h) (V : Ary P Z h a .int vs) {i : Int32} (hi : ¬ i < 0) (hg : vs[i.toNatClampNeg]? = some v) (hd : decode B pc = .ok (.iaload, 1)) (hp : pc + 1 = pc') (k : Gt p.tables e below F (T.setTop (mkF m pc' L (v :: rest)))) : Gt p.tables e below F (T.setTop (mkF m pc L (.int i :: .ref a :: rest))) := by
  subst hp
  obtain ⟨cl, A, -, r, t⟩ := V
  exact k.go fun t q => X.iaload hx (by rw [eT]; exact A.1) (State.isArrayOf_alike hZ.alike A.2.1) A.2.2 (Ary.inb r hi (List.getElem?_eq_some_iff.mp hg).1) (Ary.at r hg) (g := mkF m pc L (.int i :: .ref a :: rest)) rfl rfl (hb hby hd) _ q
theorem own_laload (X : Stand p l e R s m args below meth c T locs cells slots) (hx : p.tables.exec = Jvm.exec) (hby : c.code = B) (hZ : Z.Warmed39 s.vm) (eT : T.heap = h) (V : Ary P Z h a .long vs) {i : Int32} (hi : ¬ i < 0) (hg : vs[i.toNatClampNeg]? = some v) (hd : decode B pc = .ok (.laload, 1)) (hp : pc + 1 = pc') (k : Gt p.tables e below F (T.setTop (mkF m pc' L (v :: rest)))) : Gt p.tables e below F (T.setTop (mkF m pc L (.int i :: .ref a :: rest))) := by
  subst hp
  obtain ⟨cl, A, -, r, t⟩ := V
  exact k.go fun t q => X.laload hx (by rw [eT]; exact A.1) (State.isArrayOf_alike hZ.alike A.2.1) A.2.2 (Ary.inb r hi (List.getElem?_eq_some_iff.mp hg).1) (Ary.at r hg) (g := mkF m pc L (.int i :: .ref a :: rest)) rfl rfl (hb hby hd) _ q
theorem own_daload (X : Stand p l e R s m args below meth c T locs cells slots) (hx : p.tables.exec = Jvm.exec) (hby : c.code = B) (hZ : Z.Warmed39 s.vm) (eT : T.heap = h) (V : Ary P Z h a .double vs) {i : Int32} (hi : ¬ i < 0) (hg : vs[i.toNatClampNeg]? = some v) (hd : decode B pc = .ok (.daload, 1)) (hp : pc + 1 = pc') (k : Gt p.tables e below F (T.setTop (mkF m pc' L (v :: rest)))) : Gt p.tables e below F (T.setTop (mkF m pc L (.int i :: .ref a :: rest))) := by
  subst hp
  obtain ⟨cl, A, -, r, t⟩ := V
  exact k.go fun t q => X.daload hx (by rw [eT]; exact A.1) (State.isArrayOf_alike hZ.alike A.2.1) A.2.2 (Ary.inb r hi (List.getElem?_eq_some_iff.mp hg).1) (Ary.at r hg) (g := mkF m pc L (.int i :: .ref a :: rest)) rfl rfl (hb hby hd) _ q
theorem own_aaload (X : Stand p l e R s m args below meth c T locs cells slots) (hx : p.tables.exec = Jvm.exec) (hby : c.code = B) (hZ : Z.Warmed39 s.vm) (eT : T.heap = h) (V : Ary P Z h a ty vs) (hty : ty.isReference = true) {i : Int32} (hi : ¬ i < 0) (hg : vs[i.toNatClampNeg]? = some v) (hd : decode B pc = .ok (.aaload, 1)) (hp : pc + 1 = pc') (k : Gt p.tables e below F (T.setTop (mkF m pc' L (v :: rest)))) : Gt p.tables e below F (T.setTop (mkF m pc L (.int i :: .ref a :: rest))) := by
  subst hp
  obtain ⟨cl, A, -, r, t⟩ := V
  exact k.go fun t q => X.aaload hx (by rw [eT]; exact A.1) (State.isArrayOf_alike hZ.alike A.2.1) hty A.2.2 (Ary.inb r hi (List.getElem?_eq_some_iff.mp hg).1) (Ary.at r hg) (g := mkF m pc L (.int i :: .ref a :: rest)) rfl rfl (hb hby hd) _ q
theorem own_iastore (X : Stand p l e R s m args below meth c T locs cells slots) (hx : p.tables.exec = Jvm.exec) (hby : c.code = B) (hZ : Z.Warmed39 s.vm) (eT : T.heap = h) (V : Ary P Z h a .int vs) {i x : Int32} {n : Nat} (hi : ¬ i < 0) (hn : i.toNatClampNeg = n) (hl : n < vs.length) (hd : decode B pc = .ok (.iastore, 1)) (hp : pc + 1 = pc') (k : ∀ T' h', Stand p l e R s m args below meth c T' (locs ++ [⟨a, n⟩]) cells slots → T'.heap = h' → Wr h h' a n (.int x) → Gt p.tables e below F (T'.setTop (mkF m pc' L rest))) : Gt p.tables e below F (T.setTop (mkF m pc L (.int x :: .int i :: .ref a :: rest))) := by
  subst hp hn
  obtain ⟨cl, A, -, r, t⟩ := V
  obtain ⟨T', h', X', e', W, st⟩ := stI X hx hZ eT A (Ary.inb r hi hl) (g := mkF m pc L (.int x :: .int i :: .ref a :: rest)) rfl rfl (hb hby hd)
  exact (k T' h' X' e' W).go st
theorem own_lastore (X : Stand p l e R s m args below meth c T locs cells slots) (hx : p.tables.exec = Jvm.exec) (hby : c.code = B) (hZ : Z.Warmed39 s.vm) (eT : T.heap = h) (V : Ary P Z h a .long vs) {i : Int32} {x : Int64} {n : Nat} (hi : ¬ i < 0) (hn : i.toNatClampNeg = n) (hl : n < vs.length) (hd : decode B pc = .ok (.lastore, 1)) (hp : pc + 1 = pc') (k : ∀ T' h', Stand p l e R s m args below meth c T' (locs ++ [⟨a, n⟩]) cells slots → T'.heap = h' → Wr h h' a n (.long x) → Gt p.tables e below F (T'.setTop (mkF m pc' L rest))) : Gt p.tables e below F (T.setTop (mkF m pc L (.long x :: .int i :: .ref a :: rest))) := by
  subst hp hn
  obtain ⟨cl, A, -, r, t⟩ := V
  obtain ⟨T', h', X', e', W, st⟩ := stJ X hx hZ eT A (Ary.inb r hi hl) (g := mkF m pc L (.long x :: .int i :: .ref a :: rest)) rfl rfl (hb hby hd)
  exact (k T' h' X' e' W).go st
theorem own_dastore (X : Stand p l e R s m args below meth c T locs cells slots) (hx : p.tables.exec = Jvm.exec) (hby : c.code = B) (hZ : Z.Warmed39 s.vm) (eT : T.heap = h) (V : Ary P Z h a .double vs) {i : Int32} {x : UInt64} {n : Nat} (hi : ¬ i < 0) (hn : i.toNatClampNeg = n) (hl : n < vs.length) (hd : decode B pc = .ok (.dastore, 1)) (hp : pc + 1 = pc') (k : ∀ T' h', Stand p l e R s m args below meth c T' (locs ++ [⟨a, n⟩]) cells slots → T'.heap = h' → Wr h h' a n (.double x) → Gt p.tables e below F (T'.setTop (mkF m pc' L rest))) : Gt p.tables e below F (T.setTop (mkF m pc L (.double x :: .int i :: .ref a :: rest))) := by
  subst hp hn
  obtain ⟨cl, A, -, r, t⟩ := V
  obtain ⟨T', h', X', e', W, st⟩ := stD X hx hZ eT A (Ary.inb r hi hl) (g := mkF m pc L (.double x :: .int i :: .ref a :: rest)) rfl rfl (hb hby hd)
  exact (k T' h' X' e' W).go st
/-- what lies in it: an array class over C -/
def ovA (Z : State) (ty : FieldType) (C : String) (k : ClassId) : Prop := OvrA Z k ty C
def ovO (Z : State) (C : String) (k : ClassId) : Prop := Ovr Z k C
theorem own_aastoreA (X : Stand p l e R s m args below meth c T locs cells slots) (hx : p.tables.exec = Jvm.exec) (hby : c.code = B) (hZ : Z.Warmed39 s.vm) (eT : T.heap = h) {C : String} (V : Ary (ovA Z ty C) Z h a (.array ty) vs) {i : Int32} {x : Addr} {n : Nat} (E : Exa Z h x C) (hi : ¬ i < 0) (hn : i.toNatClampNeg = n) (hl : n < vs.length) (hd : decode B pc = .ok (.aastore, 1)) (hp : pc + 1 = pc') (k : ∀ T' h', Stand p l e R s m args below meth c T' (locs ++ [⟨a, n⟩]) cells slots → T'.heap = h' → Wr h h' a n (.ref x) → Gt p.tables e below F (T'.setTop (mkF m pc' L rest))) : Gt p.tables e below F (T.setTop (mkF m pc L (.ref x :: .int i :: .ref a :: rest))) := by
  subst hp hn
  obtain ⟨cl, A, O, r, t⟩ := V
  obtain ⟨T', h', X', e', W, st⟩ := stR X hx hZ eT A (Ary.inb r hi hl) rfl (Sto.ofVA A rfl O (Ins.self E)) (g := mkF m pc L (.ref x :: .int i :: .ref a :: rest)) rfl rfl (hb hby hd)
  exact (k T' h' X' e' W).go st
theorem own_aastoreO (X : Stand p l e R s m args below meth c T locs cells slots) (hx : p.tables.exec = Jvm.exec) (hby : c.code = B) (hZ : Z.Warmed39 s.vm) (eT : T.heap = h) {C : String} (V : Ary (ovO Z C) Z h a (.object C) vs) {i : Int32} {x : Addr} {n : Nat} (E : Exa Z h x C) (hi : ¬ i < 0) (hn : i.toNatClampNeg = n) (hl : n < vs.length) (hd : decode B pc = .ok (.aastore, 1)) (hp : pc + 1 = pc') (k : ∀ T' h', Stand p l e R s m args below meth c T' (locs ++ [⟨a, n⟩]) cells slots → T'.heap = h' → Wr h h' a n (.ref x) → Gt p.tables e below F (T'.setTop (mkF m pc' L rest))) : Gt p.tables e below F (T.setTop (mkF m pc L (.ref x :: .int i :: .ref a :: rest))) := by
  subst hp hn
  obtain ⟨cl, A, O, r, t⟩ := V
  obtain ⟨T', h', X', e', W, st⟩ := stR X hx hZ eT A (Ary.inb r hi hl) rfl (Sto.of A O (Ins.self E)) (g := mkF m pc L (.ref x :: .int i :: .ref a :: rest)) rfl rfl (hb hby hd)
  exact (k T' h' X' e' W).go st
theorem own_newP (X : Stand p l e R s m args below meth c T locs cells slots) (hx : p.tables.exec = Jvm.exec) (hby : c.code = B) (hZ : Z.Warmed39 s.vm) {aty : ArrayType} (w : (Jvm.Cond.arrayClass (newarray.typeOf aty)).before a0 Z = true) (eT : T.heap = h) (hd : decode B pc = .ok (.newarray aty, 2)) (hp : pc + 2 = pc') {n : Int32} (hn : ¬ n < 0) {N : Nat} (hN : n.toNatClampNeg = N) {cap : Nat} (hcap : N ≤ cap) (hbb : cap * 8 ≤ 536870912) (hc : cells + 1 ≤ R.cells) (hl : slots + cap ≤ R.slots) {ad : String} (had : "[" ++ (newarray.typeOf aty).toString = ad)
    (k : ∀ T' h' a, Stand p l e R s m args below meth c T' locs (cells + 1) (slots + cap) → T'.heap = h' → Ext h h' → h.size = a → Exa Z h' a ad → Ary tr Z h' a (newarray.typeOf aty) (List.replicate N (defaultValue (newarray.typeOf aty))) → Gt p.tables e below F (T'.setTop (mkF m pc' L (.ref a :: rest)))) : Gt p.tables e below F (T.setTop (mkF m pc L (.int n :: rest))) := by
  subst hp hN
  obtain ⟨T', h', cA, X', e', E', A', Ex, st⟩ := newPE X hx hZ w eT (g := mkF m pc L (.int n :: rest)) rfl (hb hby hd) rfl hn hcap hbb hc hl had
  exact (k T' h' _ X' e' E' rfl Ex ⟨_, A', trivial, by simp [newA], by rw [List.length_replicate]; exact (back32 hn).2⟩).go st
theorem own_newRA (X : Stand p l e R s m args below meth c T locs cells slots) (hx : p.tables.exec = Jvm.exec) (hby : c.code = B) (hZ : Z.Warmed39 s.vm) {own C : String} {index : Nat} (hown : s.vm.findClass own = some m.cls) (hC : (FieldType.array ty).toString = C) (w1 : (Jvm.Cond.classLink own index C).before a0 Z = true) (w2 : (Jvm.Cond.arrayOver (.array ty)).before a0 Z = true) (eT : T.heap = h) (hd : decode B pc = .ok (.anewarray index, 3)) (hp : pc + 3 = pc') {n : Int32} (hn : ¬ n < 0) {N : Nat} (hN : n.toNatClampNeg = N) {cap : Nat} (hcap : N ≤ cap) (hbb : cap * 8 ≤ 536870912) (hc : cells + 1 ≤ R.cells) (hl : slots + cap ≤ R.slots) {ad : String} (had : "[" ++ C = ad)
    (k : ∀ T' h' a, Stand p l e R s m args below meth c T' locs (cells + 1) (slots + cap) → T'.heap = h' → Ext h h' → h.size = a → Exa Z h' a ad → Ary (ovA Z ty C) Z h' a (.array ty) (List.replicate N .null) → Gt p.tables e below F (T'.setTop (mkF m pc' L (.ref a :: rest)))) : Gt p.tables e below F (T.setTop (mkF m pc L (.int n :: rest))) := by
  subst hp hN
  obtain ⟨T', h', cA, X', e', E', A', Ex, O, st⟩ := newRA X hx hZ hown hC w1 w2 eT (g := mkF m pc L (.int n :: rest)) rfl (hb hby hd) rfl hn hcap hbb hc hl had
  exact (k T' h' _ X' e' E' rfl Ex ⟨_, A', O, by simp [newA, defaultValue], by rw [List.length_replicate]; exact (back32 hn).2⟩).go st
theorem own_newRO (X : Stand p l e R s m args below meth c T locs cells slots) (hx : p.tables.exec = Jvm.exec) (hby : c.code = B) (hZ : Z.Warmed39 s.vm) {own C : String} {index : Nat} (hown : s.vm.findClass own = some m.cls) (w1 : (Jvm.Cond.classLink own index C).before a0 Z = true) (w2 : (Jvm.Cond.arrayOver (.object C)).before a0 Z = true) (eT : T.heap = h) (hd : decode B pc = .ok (.anewarray index, 3)) (hp : pc + 3 = pc') {n : Int32} (hn : ¬ n < 0) {N : Nat} (hN : n.toNatClampNeg = N) {cap : Nat} (hcap : N ≤ cap) (hbb : cap * 8 ≤ 536870912) (hc : cells + 1 ≤ R.cells) (hl : slots + cap ≤ R.slots) {ad : String} (had : "[" ++ (FieldType.object C).toString = ad)
    (k : ∀ T' h' a, Stand p l e R s m args below meth c T' locs (cells + 1) (slots + cap) → T'.heap = h' → Ext h h' → h.size = a → Exa Z h' a ad → Ary (ovO Z C) Z h' a (.object C) (List.replicate N .null) → Gt p.tables e below F (T'.setTop (mkF m pc' L (.ref a :: rest)))) : Gt p.tables e below F (T.setTop (mkF m pc L (.int n :: rest))) := by
  subst hp hN
  obtain ⟨T', h', cA, X', e', E', A', Ex, O, st⟩ := newRE X hx hZ hown w1 w2 eT (g := mkF m pc L (.int n :: rest)) rfl (hb hby hd) rfl hn hcap hbb hc hl had
  exact (k T' h' _ X' e' E' rfl Ex ⟨_, A', O, by simp [newA, defaultValue], by rw [List.length_replicate]; exact (back32 hn).2⟩).go st
/-- new T[3][3] of a primitive kind -/
theorem own_grid3 (X : Stand p l e R s m args below meth c T locs cells slots) (hx : p.tables.exec = Jvm.exec) (hby : c.code = B) (hZ : Z.Warmed39 s.vm) {own C ad : String} {index : Nat} (hown : s.vm.findClass own = some m.cls) (hC : (FieldType.array ty).toString = C) (had : "[" ++ C = ad)
    (w1 : (Jvm.Cond.classLink own index ad).before a0 Z = true) (w2 : (Jvm.Cond.arrayOver (.array ty)).before a0 Z = true) (w3 : (Jvm.Cond.arrayClass ty).before a0 Z = true) (eT : T.heap = h) (hd : decode B pc = .ok (.multianewarray index 2, 4)) (hp : pc + 4 = pc') (hdf : fits ty (defaultValue ty) = true) (hdd : (defaultValue ty).isDefault = true) (hc : cells + 4 ≤ R.cells) (hl : slots + 12 ≤ R.slots)
    (k : ∀ T' h' a b1 b2 b3, Stand p l e R s m args below meth c T' locs (cells + 4) (slots + 12) → T'.heap = h' → Ext h h' → h.size = a → a < b1 → b1 < b2 → b2 < b3 → Exa Z h' a ad → Ary (ovA Z ty C) Z h' a (.array ty) [.ref b1, .ref b2, .ref b3] → Exa Z h' b1 C → Exa Z h' b2 C → Exa Z h' b3 C → Ary tr Z h' b1 ty [defaultValue ty, defaultValue ty, defaultValue ty] → Ary tr Z h' b2 ty [defaultValue ty, defaultValue ty, defaultValue ty] → Ary tr Z h' b3 ty [defaultValue ty, defaultValue ty, defaultValue ty] → Gt p.tables e below F (T'.setTop (mkF m pc' L (.ref a :: rest)))) : Gt p.tables e below F (T.setTop (mkF m pc L (.int 3 :: .int 3 :: rest))) := by
  subst hp
  obtain ⟨T', h', cA, comp, X', e', E', ⟨cl, A1, A2, A3, A4, A5, A6⟩, O, Ex, I, st⟩ := gridM X hx hZ hown hC had w1 w2 w3 eT (g := mkF m pc L (.int 3 :: .int 3 :: rest)) rfl (hb hby hd) (n := 3) (k := 3) rfl (by decide) (by decide) (N := 3) (by decide) (xs := [h.size + 1, h.size + 2, h.size + 3]) rfl (cap := 3) (by decide) (by decide) (by decide) hdf hdd hc hl
  have i1 := I 0 _ rfl; have i2 := I 1 _ rfl; have i3 := I 2 _ rfl
  have f : ∀ x, Arr Z h' x (newA comp ty 3) ty → Ary tr Z h' x ty [defaultValue ty, defaultValue ty, defaultValue ty] := fun x q => ⟨_, q, trivial, by simp [newA], by show 3 < 2 ^ 31; decide⟩
  refine (k T' h' _ _ _ _ X' e' E' rfl (Nat.lt_succ_self _) (Nat.lt_succ_self _) (Nat.lt_succ_self _) Ex ⟨cl, A1, A2 ▸ O, ?_, by show 3 < 2 ^ 31; decide⟩ i1.2 i2.2 i3.2 (f _ i1.1) (f _ i2.1) (f _ i3.1)).go st
  have sz : cl.slots.size = 3 := A3
  refine List.ext_getElem? fun i => ?_
  by_cases hi : i < 3
  · have q := A5 i (by omega)
    rw [Array.getElem?_toList, q]
    match i, hi with
    | 0, _ => rfl
    | 1, _ => rfl
    | 2, _ => rfl
  · rw [List.getElem?_eq_none (by simp; omega), List.getElem?_eq_none (by simp; omega)]
end OwnA
section OwnL
theorem own_lget {α : Type} {L : List α} {d : α} {i : Nat} {f : α → Value} (h : i < L.length) : (L.map f)[i]? = some (f (L.getD i d)) := by
  rw [List.getElem?_map, List.getD_eq_getElem?_getD, List.getElem?_eq_getElem h]; rfl
theorem own_rg0 {i : Int32} {m : Int} (h : 0 ≤ i.toInt ∧ i.toInt < m) : ¬ i < 0 := by
  rw [Int32.lt_iff_toInt_lt]; have : (0 : Int32).toInt = 0 := by decide
  omega
theorem own_rgl {α : Type} {L : List α} {i : Int32} {m : Int} {n : Nat} (h : 0 ≤ i.toInt ∧ i.toInt < m) (hl : L.length = n) (e : m.toNat = n := by rfl) : i.toNatClampNeg < L.length := by
  show i.toInt.toNat < _; omega
end OwnL
section OwnC
variable {x y : UInt64} {i j : Int64} {a b : Int32}
abbrev dlt (x y : UInt64) : Prop := FP.dcmp x y = some .lt
abbrev dgt (x y : UInt64) : Prop := FP.dcmp x y = some .gt
abbrev deq (x y : UInt64) : Prop := FP.dcmp x y = some .eq
abbrev dle (x y : UInt64) : Prop := FP.dcmp x y = some .lt ∨ FP.dcmp x y = some .eq
abbrev dge (x y : UInt64) : Prop := FP.dcmp x y = some .gt ∨ FP.dcmp x y = some .eq
theorem own_dl_lt_p (h : dge x y) : ifCond.holds .lt (cmpValue (FP.dcmp x y) .l) = false := by
  unfold dge at h; revert h; generalize FP.dcmp x y = o; rcases o with _ | (_ | _ | _) <;> decide
theorem own_dl_lt_n (h : ¬ dge x y) : ifCond.holds .lt (cmpValue (FP.dcmp x y) .l) = true := by
  unfold dge at h; revert h; generalize FP.dcmp x y = o; rcases o with _ | (_ | _ | _) <;> decide
theorem own_dl_ge_p (h : dge x y) : ifCond.holds .ge (cmpValue (FP.dcmp x y) .l) = true := by
  unfold dge at h; revert h; generalize FP.dcmp x y = o; rcases o with _ | (_ | _ | _) <;> decide
theorem own_dl_ge_n (h : ¬ dge x y) : ifCond.holds .ge (cmpValue (FP.dcmp x y) .l) = false := by
  unfold dge at h; revert h; generalize FP.dcmp x y = o; rcases o with _ | (_ | _ | _) <;> decide
theorem own_dl_gt_p (h : dgt x y) : ifCond.holds .gt (cmpValue (FP.dcmp x y) .l) = true := by
  unfold dgt at h; revert h; generalize FP.dcmp x y = o; rcases o with _ | (_ | _ | _) <;> decide
theorem own_dl_gt_n (h : ¬ dgt x y) : ifCond.holds .gt (cmpValue (FP.dcmp x y) .l) = false := by
  unfold dgt at h; revert h; generalize FP.dcmp x y = o; rcases o with _ | (_ | _ | _) <;> decide
theorem own_dl_le_p (h : dgt x y) : ifCond.holds .le (cmpValue (FP.dcmp x y) .l) = false := by
  unfold dgt at h; revert h; generalize FP.dcmp x y = o; rcases o with _ | (_ | _ | _) <;> decide
theorem own_dl_le_n (h : ¬ dgt x y) : ifCond.holds .le (cmpValue (FP.dcmp x y) .l) = true := by
  unfold dgt at h; revert h; generalize FP.dcmp x y = o; rcases o with _ | (_ | _ | _) <;> decide
theorem own_dl_eq_p (h : deq x y) : ifCond.holds .eq (cmpValue (FP.dcmp x y) .l) = true := by
  unfold deq at h; revert h; generalize FP.dcmp x y = o; rcases o with _ | (_ | _ | _) <;> decide
theorem own_dl_eq_n (h : ¬ deq x y) : ifCond.holds .eq (cmpValue (FP.dcmp x y) .l) = false := by
  unfold deq at h; revert h; generalize FP.dcmp x y = o; rcases o with _ | (_ | _ | _) <;> decide
theorem own_dl_ne_p (h : deq x y) : ifCond.holds .ne (cmpValue (FP.dcmp x y) .l) = false := by
  unfold deq at h; revert h; generalize FP.dcmp x y = o; rcases o with _ | (_ | _ | _) <;> decide
theorem own_dl_ne_n (h : ¬ deq x y) : ifCond.holds .ne (cmpValue (FP.dcmp x y) .l) = true := by
  unfold deq at h; revert h; generalize FP.dcmp x y = o; rcases o with _ | (_ | _ | _) <;> decide
theorem own_dg_lt_p (h : dlt x y) : ifCond.holds .lt (cmpValue (FP.dcmp x y) .g) = true := by
  unfold dlt at h; revert h; generalize FP.dcmp x y = o; rcases o with _ | (_ | _ | _) <;> decide
theorem own_dg_lt_n (h : ¬ dlt x y) : ifCond.holds .lt (cmpValue (FP.dcmp x y) .g) = false := by
  unfold dlt at h; revert h; generalize FP.dcmp x y = o; rcases o with _ | (_ | _ | _) <;> decide
theorem own_dg_ge_p (h : dlt x y) : ifCond.holds .ge (cmpValue (FP.dcmp x y) .g) = false := by
  unfold dlt at h; revert h; generalize FP.dcmp x y = o; rcases o with _ | (_ | _ | _) <;> decide
theorem own_dg_ge_n (h : ¬ dlt x y) : ifCond.holds .ge (cmpValue (FP.dcmp x y) .g) = true := by
  unfold dlt at h; revert h; generalize FP.dcmp x y = o; rcases o with _ | (_ | _ | _) <;> decide
theorem own_dg_gt_p (h : dle x y) : ifCond.holds .gt (cmpValue (FP.dcmp x y) .g) = false := by
  unfold dle at h; revert h; generalize FP.dcmp x y = o; rcases o with _ | (_ | _ | _) <;> decide
theorem own_dg_gt_n (h : ¬ dle x y) : ifCond.holds .gt (cmpValue (FP.dcmp x y) .g) = true := by
  unfold dle at h; revert h; generalize FP.dcmp x y = o; rcases o with _ | (_ | _ | _) <;> decide
theorem own_dg_le_p (h : dle x y) : ifCond.holds .le (cmpValue (FP.dcmp x y) .g) = true := by
  unfold dle at h; revert h; generalize FP.dcmp x y = o; rcases o with _ | (_ | _ | _) <;> decide
theorem own_dg_le_n (h : ¬ dle x y) : ifCond.holds .le (cmpValue (FP.dcmp x y) .g) = false := by
  unfold dle at h; revert h; generalize FP.dcmp x y = o; rcases o with _ | (_ | _ | _) <;> decide
theorem own_dg_eq_p (h : deq x y) : ifCond.holds .eq (cmpValue (FP.dcmp x y) .g) = true := by
  unfold deq at h; revert h; generalize FP.dcmp x y = o; rcases o with _ | (_ | _ | _) <;> decide
theorem own_dg_eq_n (h : ¬ deq x y) : ifCond.holds .eq (cmpValue (FP.dcmp x y) .g) = false := by
  unfold deq at h; revert h; generalize FP.dcmp x y = o; rcases o with _ | (_ | _ | _) <;> decide
theorem own_dg_ne_p (h : deq x y) : ifCond.holds .ne (cmpValue (FP.dcmp x y) .g) = false := by
  unfold deq at h; revert h; generalize FP.dcmp x y = o; rcases o with _ | (_ | _ | _) <;> decide
theorem own_dg_ne_n (h : ¬ deq x y) : ifCond.holds .ne (cmpValue (FP.dcmp x y) .g) = true := by
  unfold deq at h; revert h; generalize FP.dcmp x y = o; rcases o with _ | (_ | _ | _) <;> decide
theorem own_lc_lt_p (h : i < j) : ifCond.holds .lt (if i > j then 1 else if i = j then 0 else -1 : Int32) = true := by
  simp only [gt_iff_lt, Int64.lt_iff_toInt_lt, ← Int64.toInt_inj] at h ⊢
  rcases Int.lt_trichotomy i.toInt j.toInt with q | q | q
  · rw [if_neg (by omega), if_neg (by omega)]; first | rfl | (exfalso; omega)
  · rw [if_neg (by omega), if_pos q]; first | rfl | (exfalso; omega)
  · rw [if_pos q]; first | rfl | (exfalso; omega)
theorem own_lc_lt_n (h : ¬ i < j) : ifCond.holds .lt (if i > j then 1 else if i = j then 0 else -1 : Int32) = false := by
  simp only [gt_iff_lt, Int64.lt_iff_toInt_lt, ← Int64.toInt_inj] at h ⊢
  rcases Int.lt_trichotomy i.toInt j.toInt with q | q | q
  · rw [if_neg (by omega), if_neg (by omega)]; first | rfl | (exfalso; omega)
  · rw [if_neg (by omega), if_pos q]; first | rfl | (exfalso; omega)
  · rw [if_pos q]; first | rfl | (exfalso; omega)
theorem own_lc_ge_p (h : i < j) : ifCond.holds .ge (if i > j then 1 else if i = j then 0 else -1 : Int32) = false := by
  simp only [gt_iff_lt, Int64.lt_iff_toInt_lt, ← Int64.toInt_inj] at h ⊢
  rcases Int.lt_trichotomy i.toInt j.toInt with q | q | q
  · rw [if_neg (by omega), if_neg (by omega)]; first | rfl | (exfalso; omega)
  · rw [if_neg (by omega), if_pos q]; first | rfl | (exfalso; omega)
  · rw [if_pos q]; first | rfl | (exfalso; omega)
theorem own_lc_ge_n (h : ¬ i < j) : ifCond.holds .ge (if i > j then 1 else if i = j then 0 else -1 : Int32) = true := by
  simp only [gt_iff_lt, Int64.lt_iff_toInt_lt, ← Int64.toInt_inj] at h ⊢
  rcases Int.lt_trichotomy i.toInt j.toInt with q | q | q
  · rw [if_neg (by omega), if_neg (by omega)]; first | rfl | (exfalso; omega)
  · rw [if_neg (by omega), if_pos q]; first | rfl | (exfalso; omega)
  · rw [if_pos q]; first | rfl | (exfalso; omega)
theorem own_lc_gt_p (h : j < i) : ifCond.holds .gt (if i > j then 1 else if i = j then 0 else -1 : Int32) = true := by
  simp only [gt_iff_lt, Int64.lt_iff_toInt_lt, ← Int64.toInt_inj] at h ⊢
  rcases Int.lt_trichotomy i.toInt j.toInt with q | q | q
  · rw [if_neg (by omega), if_neg (by omega)]; first | rfl | (exfalso; omega)
  · rw [if_neg (by omega), if_pos q]; first | rfl | (exfalso; omega)
  · rw [if_pos q]; first | rfl | (exfalso; omega)
theorem own_lc_gt_n (h : ¬ j < i) : ifCond.holds .gt (if i > j then 1 else if i = j then 0 else -1 : Int32) = false := by
  simp only [gt_iff_lt, Int64.lt_iff_toInt_lt, ← Int64.toInt_inj] at h ⊢
  rcases Int.lt_trichotomy i.toInt j.toInt with q | q | q
  · rw [if_neg (by omega), if_neg (by omega)]; first | rfl | (exfalso; omega)
  · rw [if_neg (by omega), if_pos q]; first | rfl | (exfalso; omega)
  · rw [if_pos q]; first | rfl | (exfalso; omega)
theorem own_lc_le_p (h : j < i) : ifCond.holds .le (if i > j then 1 else if i = j then 0 else -1 : Int32) = false := by
  simp only [gt_iff_lt, Int64.lt_iff_toInt_lt, ← Int64.toInt_inj] at h ⊢
  rcases Int.lt_trichotomy i.toInt j.toInt with q | q | q
  · rw [if_neg (by omega), if_neg (by omega)]; first | rfl | (exfalso; omega)
  · rw [if_neg (by omega), if_pos q]; first | rfl | (exfalso; omega)
  · rw [if_pos q]; first | rfl | (exfalso; omega)
theorem own_lc_le_n (h : ¬ j < i) : ifCond.holds .le (if i > j then 1 else if i = j then 0 else -1 : Int32) = true := by
  simp only [gt_iff_lt, Int64.lt_iff_toInt_lt, ← Int64.toInt_inj] at h ⊢
  rcases Int.lt_trichotomy i.toInt j.toInt with q | q | q
  · rw [if_neg (by omega), if_neg (by omega)]; first | rfl | (exfalso; omega)
  · rw [if_neg (by omega), if_pos q]; first | rfl | (exfalso; omega)
  · rw [if_pos q]; first | rfl | (exfalso; omega)
theorem own_lc_eq_p (h : i = j) : ifCond.holds .eq (if i > j then 1 else if i = j then 0 else -1 : Int32) = true := by
  simp only [gt_iff_lt, Int64.lt_iff_toInt_lt, ← Int64.toInt_inj] at h ⊢
  rcases Int.lt_trichotomy i.toInt j.toInt with q | q | q
  · rw [if_neg (by omega), if_neg (by omega)]; first | rfl | (exfalso; omega)
  · rw [if_neg (by omega), if_pos q]; first | rfl | (exfalso; omega)
  · rw [if_pos q]; first | rfl | (exfalso; omega)
theorem own_lc_eq_n (h : ¬ i = j) : ifCond.holds .eq (if i > j then 1 else if i = j then 0 else -1 : Int32) = false := by
  simp only [gt_iff_lt, Int64.lt_iff_toInt_lt, ← Int64.toInt_inj] at h ⊢
  rcases Int.lt_trichotomy i.toInt j.toInt with q | q | q
  · rw [if_neg (by omega), if_neg (by omega)]; first | rfl | (exfalso; omega)
  · rw [if_neg (by omega), if_pos q]; first | rfl | (exfalso; omega)
  · rw [if_pos q]; first | rfl | (exfalso; omega)
theorem own_lc_ne_p (h : i = j) : ifCond.holds .ne (if i > j then 1 else if i = j then 0 else -1 : Int32) = false := by
  simp only [gt_iff_lt, Int64.lt_iff_toInt_lt, ← Int64.toInt_inj] at h ⊢
  rcases Int.lt_trichotomy i.toInt j.toInt with q | q | q
  · rw [if_neg (by omega), if_neg (by omega)]; first | rfl | (exfalso; omega)
  · rw [if_neg (by omega), if_pos q]; first | rfl | (exfalso; omega)
  · rw [if_pos q]; first | rfl | (exfalso; omega)
theorem own_lc_ne_n (h : ¬ i = j) : ifCond.holds .ne (if i > j then 1 else if i = j then 0 else -1 : Int32) = true := by
  simp only [gt_iff_lt, Int64.lt_iff_toInt_lt, ← Int64.toInt_inj] at h ⊢
  rcases Int.lt_trichotomy i.toInt j.toInt with q | q | q
  · rw [if_neg (by omega), if_neg (by omega)]; first | rfl | (exfalso; omega)
  · rw [if_neg (by omega), if_pos q]; first | rfl | (exfalso; omega)
  · rw [if_pos q]; first | rfl | (exfalso; omega)
theorem own_i0_lt_p (h : a < 0) : ifCond.holds .lt a = true := (if0 _ _).trans (tlt h).1
theorem own_i0_lt_n (h : ¬ a < 0) : ifCond.holds .lt a = false := (if0 _ _).trans (flt h).1
theorem own_i0_ge_p (h : a < 0) : ifCond.holds .ge a = false := (if0 _ _).trans (tlt h).2.1
theorem own_i0_ge_n (h : ¬ a < 0) : ifCond.holds .ge a = true := (if0 _ _).trans (flt h).2.1
theorem own_i0_gt_p (h : 0 < a) : ifCond.holds .gt a = true := (if0 _ _).trans (tlt h).2.2.1
theorem own_i0_gt_n (h : ¬ 0 < a) : ifCond.holds .gt a = false := (if0 _ _).trans (flt h).2.2.1
theorem own_i0_le_p (h : 0 < a) : ifCond.holds .le a = false := (if0 _ _).trans (tlt h).2.2.2
theorem own_i0_le_n (h : ¬ 0 < a) : ifCond.holds .le a = true := (if0 _ _).trans (flt h).2.2.2
theorem own_i0_eq_p (h : a = 0) : ifCond.holds .eq a = true := (if0 _ _).trans (teq h).1
theorem own_i0_eq_n (h : ¬ a = 0) : ifCond.holds .eq a = false := (if0 _ _).trans (feq h).1
theorem own_i0_ne_p (h : a = 0) : ifCond.holds .ne a = false := (if0 _ _).trans (teq h).2
theorem own_i0_ne_n (h : ¬ a = 0) : ifCond.holds .ne a = true := (if0 _ _).trans (feq h).2
theorem own_ic_lt_p (h : a < b) : if_icmp.holds .lt a b = true := (tlt h).1
theorem own_ic_lt_n (h : ¬ a < b) : if_icmp.holds .lt a b = false := (flt h).1
theorem own_ic_ge_p (h : a < b) : if_icmp.holds .ge a b = false := (tlt h).2.1
theorem own_ic_ge_n (h : ¬ a < b) : if_icmp.holds .ge a b = true := (flt h).2.1
theorem own_ic_gt_p (h : b < a) : if_icmp.holds .gt a b = true := (tlt h).2.2.1
theorem own_ic_gt_n (h : ¬ b < a) : if_icmp.holds .gt a b = false := (flt h).2.2.1
theorem own_ic_le_p (h : b < a) : if_icmp.holds .le a b = false := (tlt h).2.2.2
theorem own_ic_le_n (h : ¬ b < a) : if_icmp.holds .le a b = true := (flt h).2.2.2
theorem own_ic_eq_p (h : a = b) : if_icmp.holds .eq a b = true := (teq h).1
theorem own_ic_eq_n (h : ¬ a = b) : if_icmp.holds .eq a b = false := (feq h).1
theorem own_ic_ne_p (h : a = b) : if_icmp.holds .ne a b = false := (teq h).2
theorem own_ic_ne_n (h : ¬ a = b) : if_icmp.holds .ne a b = true := (feq h).2
end OwnC
section OwnF
open Jvm.FP.Core (val64 zval zmag b64 one64 DFin DZero good_b64 val64_fits inUnits signed sgn)
/-- the value in units of 2^-1074 -/
abbrev zv (x : UInt64) : Int := zval b64 (val64 x)
def uu : Int := ((one64 : Nat) : Int)
theorem uu_pos : 0 < uu := by have := FP.Core.one64_pos; show (0 : Int) < ((one64 : Nat) : Int); omega
theorem own_add_le {x y V : UInt64} (hx : DFin x) (hy : DFin y) (hV : val64 V ≠ .nan) (h : zv x + zv y ≤ zv V) : zv (FP.dadd x y) ≤ zv V := by
  show zval b64 (val64 (FP.Core.dadd x y)) ≤ _
  rw [FP.Core.val64_dadd]; exact FP.Core.sum_le good_b64 hx hy (val64_fits x) (val64_fits y) (val64_fits V) hV h
theorem own_add_ge {x y V : UInt64} (hx : DFin x) (hy : DFin y) (hV : val64 V ≠ .nan) (h : zv V ≤ zv x + zv y) : zv V ≤ zv (FP.dadd x y) := by
  show _ ≤ zval b64 (val64 (FP.Core.dadd x y))
  rw [FP.Core.val64_dadd]; exact FP.Core.sum_ge good_b64 hx hy (val64_fits x) (val64_fits y) (val64_fits V) hV h
theorem own_neg_fin {y : UInt64} (hy : DFin y) : ∃ s c q, FP.Core.negate (val64 y) = .fin s c q := by
  obtain ⟨s, c, q, h⟩ := hy; exact ⟨!s, c, q, by rw [h]; rfl⟩
theorem own_sub_le {x y V : UInt64} (hx : DFin x) (hy : DFin y) (hV : val64 V ≠ .nan) (h : zv x - zv y ≤ zv V) : zv (FP.dsub x y) ≤ zv V := by
  show zval b64 (val64 (FP.Core.dsub x y)) ≤ _
  rw [FP.Core.val64_dsub]; exact FP.Core.sum_le good_b64 hx (own_neg_fin hy) (val64_fits x) (FP.Core.negate_fits (val64_fits y)) (val64_fits V) hV (by rw [FP.Core.zval_negate]; unfold zv at h; omega)
theorem own_sub_ge {x y V : UInt64} (hx : DFin x) (hy : DFin y) (hV : val64 V ≠ .nan) (h : zv V ≤ zv x - zv y) : zv V ≤ zv (FP.dsub x y) := by
  show _ ≤ zval b64 (val64 (FP.Core.dsub x y))
  rw [FP.Core.val64_dsub]; exact FP.Core.sum_ge good_b64 hx (own_neg_fin hy) (val64_fits x) (FP.Core.negate_fits (val64_fits y)) (val64_fits V) hV (by rw [FP.Core.zval_negate]; unfold zv at h; omega)
theorem own_signed_mul (s t : Bool) (m n : Nat) : signed (s != t) (m * n) = signed s m * signed t n := by
  cases s <;> cases t <;> simp [signed, Int.neg_mul, Int.mul_neg]
theorem own_qm : b64.qmin = -1074 := by decide
theorem own_pow_e0 : ((2 ^ (b64.qmin - 2 * b64.qmin).toNat : Nat) : Int) = uu := by
  show _ = ((one64 : Nat) : Int); rw [← FP.Core.pow_qmin64]; congr 3
theorem own_mul_le {x y V : UInt64} (hx : DFin x) (hy : DFin y) (hV : val64 V ≠ .nan) (h : zv x * zv y ≤ zv V * uu) : zv (FP.dmul x y) ≤ zv V := by
  show zval b64 (val64 (FP.Core.dmul x y)) ≤ _
  obtain ⟨s, c, q, ex⟩ := hx
  obtain ⟨t, d, r, ey⟩ := hy
  have fx := val64_fits x; have fy := val64_fits y
  rw [ex] at fx; rw [ey] at fy
  unfold zv at h
  rw [ex, ey] at h
  rw [FP.Core.val64_dmul, ex, ey]
  obtain ⟨e1, e2, e3⟩ := FP.Core.product_units fx fy
  rw [e1]
  refine FP.Core.zval_round_le good_b64 (val64_fits V) hV (e0 := 2 * b64.qmin) (by rw [own_qm]; decide) e2 ?_
  rw [e3, own_pow_e0, own_signed_mul]; exact h
theorem own_mul_ge {x y V : UInt64} (hx : DFin x) (hy : DFin y) (hV : val64 V ≠ .nan) (h : zv V * uu ≤ zv x * zv y) : zv V ≤ zv (FP.dmul x y) := by
  show _ ≤ zval b64 (val64 (FP.Core.dmul x y))
  obtain ⟨s, c, q, ex⟩ := hx
  obtain ⟨t, d, r, ey⟩ := hy
  have fx := val64_fits x; have fy := val64_fits y
  rw [ex] at fx; rw [ey] at fy
  unfold zv at h
  rw [ex, ey] at h
  rw [FP.Core.val64_dmul, ex, ey]
  obtain ⟨e1, e2, e3⟩ := FP.Core.product_units fx fy
  rw [e1]
  refine FP.Core.zval_round_ge good_b64 (val64_fits V) hV (e0 := 2 * b64.qmin) (by rw [own_qm]; decide) e2 ?_
  rw [e3, own_pow_e0, own_signed_mul]; exact h
/-- a quotient's two sides in whole units -/
theorem own_div_units {c d : Nat} {q r : Int} (hq : -1074 ≤ q) (hr : -1074 ≤ r) (hr2 : r ≤ 971) (v : Nat) :
    ∃ k : Nat, 0 < k ∧ inUnits c (q - r) (-2148) * k = inUnits c q (-1074) * one64 * 2 ^ 1074 ∧ (v * 2 ^ (1074 : Nat) * d) * k = v * inUnits d r (-1074) * 2 ^ 1074 := by
  refine ⟨2 ^ (r + 1074).toNat, Nat.two_pow_pos _, ?_, ?_⟩
  · unfold inUnits one64
    rw [Nat.mul_assoc, ← Nat.pow_add, Nat.mul_assoc, Nat.mul_assoc, ← Nat.pow_add, ← Nat.pow_add, show (q - r - -2148).toNat + (r + 1074).toNat = (q - -1074).toNat + (1074 + 1074) by omega]
  · unfold inUnits
    rw [show (r - -1074).toNat = (r + 1074).toNat by omega]
    generalize 2 ^ (1074 : Nat) = w
    generalize 2 ^ (r + 1074).toNat = u
    simp only [Nat.mul_comm, Nat.mul_left_comm, Nat.mul_assoc]
theorem own_div_mag_le {x y V : UInt64} (hx : DFin x) (hy : DFin y) (hz : ¬ DZero y) (hV : val64 V ≠ .nan) (h : zmag b64 (val64 x) * one64 ≤ zmag b64 (val64 V) * zmag b64 (val64 y)) : zmag b64 (val64 (FP.ddiv x y)) ≤ zmag b64 (val64 V) := by
  show zmag b64 (val64 (FP.Core.ddiv x y)) ≤ _
  obtain ⟨s, c, q, ex⟩ := hx
  obtain ⟨t, d, r, ey⟩ := hy
  have fx := val64_fits x; have fy := val64_fits y
  rw [ex] at fx; rw [ey] at fy
  have hd : d ≠ 0 := fun e => hz ⟨t, r, by rw [ey, e]⟩
  rw [FP.Core.val64_ddiv, ex, ey]
  rw [ex, ey] at h
  show zmag b64 (if d = 0 then _ else FP.Core.roundRatio b64 (s != t) c d (q - r)) ≤ _
  rw [if_neg hd]
  have b1 : -1074 ≤ q := own_qm ▸ fx.2.1
  have b2 : -1074 ≤ r := own_qm ▸ fy.2.1
  have b3 : r ≤ 971 := fy.2.2.1
  refine FP.Core.zmag_roundRatio_le good_b64 (Nat.pos_of_ne_zero hd) (val64_fits V) hV (e0 := -2148) (by rw [own_qm]; decide) (by omega) ?_
  obtain ⟨k, hk, k1, k2⟩ := own_div_units (c := c) (d := d) b1 b2 b3 (zmag b64 (val64 V))
  rw [show (b64.qmin - -2148).toNat = 1074 by rw [own_qm]; decide]
  refine Nat.le_of_mul_le_mul_right ?_ hk
  rw [k1, k2]
  exact Nat.mul_le_mul_right _ (by have := h; simp only [zmag, own_qm] at this; exact this)
theorem own_div_mag_ge {x y V : UInt64} (hx : DFin x) (hy : DFin y) (hz : ¬ DZero y) (h : zmag b64 (val64 V) * zmag b64 (val64 y) ≤ zmag b64 (val64 x) * one64) : zmag b64 (val64 V) ≤ zmag b64 (val64 (FP.ddiv x y)) := by
  show _ ≤ zmag b64 (val64 (FP.Core.ddiv x y))
  obtain ⟨s, c, q, ex⟩ := hx
  obtain ⟨t, d, r, ey⟩ := hy
  have fx := val64_fits x; have fy := val64_fits y
  rw [ex] at fx; rw [ey] at fy
  have hd : d ≠ 0 := fun e => hz ⟨t, r, by rw [ey, e]⟩
  rw [FP.Core.val64_ddiv, ex, ey]
  rw [ex, ey] at h
  show _ ≤ zmag b64 (if d = 0 then _ else FP.Core.roundRatio b64 (s != t) c d (q - r))
  rw [if_neg hd]
  have b1 : -1074 ≤ q := own_qm ▸ fx.2.1
  have b2 : -1074 ≤ r := own_qm ▸ fy.2.1
  have b3 : r ≤ 971 := fy.2.2.1
  refine FP.Core.zmag_roundRatio_ge good_b64 (Nat.pos_of_ne_zero hd) (val64_fits V) (e0 := -2148) (by rw [own_qm]; decide) (by omega) ?_
  obtain ⟨k, hk, k1, k2⟩ := own_div_units (c := c) (d := d) b1 b2 b3 (zmag b64 (val64 V))
  rw [show (b64.qmin - -2148).toNat = 1074 by rw [own_qm]; decide]
  refine Nat.le_of_mul_le_mul_right ?_ hk
  rw [k1, k2]
  exact Nat.mul_le_mul_right _ (by have := h; simp only [zmag, own_qm] at this; exact this)
theorem own_sgn_div {x y : UInt64} (hx : DFin x) (hy : DFin y) (hz : ¬ DZero y) : sgn (val64 (FP.ddiv x y)) = (sgn (val64 x) != sgn (val64 y)) := by
  show sgn (val64 (FP.Core.ddiv x y)) = _
  obtain ⟨s, c, q, ex⟩ := hx
  obtain ⟨t, d, r, ey⟩ := hy
  have hd : d ≠ 0 := fun e => hz ⟨t, r, by rw [ey, e]⟩
  rw [FP.Core.val64_ddiv, ex, ey]
  show sgn (if d = 0 then _ else FP.Core.roundRatio b64 (s != t) c d (q - r)) = _
  rw [if_neg hd, FP.Core.sgn_roundRatio]; rfl
theorem own_notz {y : UInt64} (hy : DFin y) (h : 0 < zv y) : ¬ DZero y := fun q => by have := q.zval; unfold zv at h; omega
theorem own_possg {y : UInt64} (h : 0 < zv y) : sgn (val64 y) = false ∧ ((zmag b64 (val64 y) : Nat) : Int) = zv y := by
  unfold zv zval at *
  cases e : sgn (val64 y) <;> rw [e] at h <;> simp only [signed, if_true, Bool.false_eq_true, if_false] at h ⊢
  · exact ⟨trivial, trivial⟩
  · omega
theorem own_div_le {x y V : UInt64} (hx : DFin x) (hy : DFin y) (h0 : 0 < zv y) (hV : val64 V ≠ .nan) (h : zv x * uu ≤ zv V * zv y) : zv (FP.ddiv x y) ≤ zv V := by
  have hz := own_notz hy h0
  obtain ⟨s1, s2⟩ := own_possg h0
  have sd := own_sgn_div hx hy hz
  have L := own_div_mag_le (V := V) hx hy hz hV
  have G := own_div_mag_ge (V := V) hx hy hz
  rw [← s2] at h
  have hy0 : 0 < zmag b64 (val64 y) := by omega
  unfold zv zval at h ⊢
  rw [sd, s1]
  have u0 := FP.Core.one64_pos
  have e : uu = ((one64 : Nat) : Int) := rfl
  rw [e] at h
  generalize zmag b64 (val64 y) = my at *
  generalize zmag b64 (val64 x) = mx at *
  generalize zmag b64 (val64 V) = mv at *
  generalize zmag b64 (val64 (FP.ddiv x y)) = md at *
  generalize one64 = u at *
  have p1 : ((mx : Nat) : Int) * ((u : Nat) : Int) = ((mx * u : Nat) : Int) := (Int.natCast_mul ..).symm
  have p2 : ((mv : Nat) : Int) * ((my : Nat) : Int) = ((mv * my : Nat) : Int) := (Int.natCast_mul ..).symm
  have z1 : mv * my = 0 → mv = 0 := fun q => by rcases Nat.mul_eq_zero.mp q with q | q <;> omega
  generalize sgn (val64 x) = sx at h ⊢
  generalize sgn (val64 V) = sV at h ⊢
  cases sx <;> cases sV <;> simp only [signed, if_true, Bool.false_eq_true, if_false, Int.neg_mul, p1, p2, bne_self_eq_false, Bool.bne_false] at h ⊢
  · have := L (by omega); omega
  · have := L (by omega); have := z1 (by omega); omega
  · omega
  · have := G (by omega); omega
theorem own_div_ge {x y V : UInt64} (hx : DFin x) (hy : DFin y) (h0 : 0 < zv y) (hV : val64 V ≠ .nan) (h : zv V * zv y ≤ zv x * uu) : zv V ≤ zv (FP.ddiv x y) := by
  have hz := own_notz hy h0
  obtain ⟨s1, s2⟩ := own_possg h0
  have sd := own_sgn_div hx hy hz
  have L := own_div_mag_le (V := V) hx hy hz hV
  have G := own_div_mag_ge (V := V) hx hy hz
  rw [← s2] at h
  have hy0 : 0 < zmag b64 (val64 y) := by omega
  unfold zv zval at h ⊢
  rw [sd, s1]
  have u0 := FP.Core.one64_pos
  have e : uu = ((one64 : Nat) : Int) := rfl
  rw [e] at h
  generalize zmag b64 (val64 y) = my at *
  generalize zmag b64 (val64 x) = mx at *
  generalize zmag b64 (val64 V) = mv at *
  generalize zmag b64 (val64 (FP.ddiv x y)) = md at *
  generalize one64 = u at *
  have p1 : ((mx : Nat) : Int) * ((u : Nat) : Int) = ((mx * u : Nat) : Int) := (Int.natCast_mul ..).symm
  have p2 : ((mv : Nat) : Int) * ((my : Nat) : Int) = ((mv * my : Nat) : Int) := (Int.natCast_mul ..).symm
  have z1 : mv * my = 0 → mv = 0 := fun q => by rcases Nat.mul_eq_zero.mp q with q | q <;> omega
  generalize sgn (val64 x) = sx at h ⊢
  generalize sgn (val64 V) = sV at h ⊢
  cases sx <;> cases sV <;> simp only [signed, if_true, Bool.false_eq_true, if_false, Int.neg_mul, p1, p2, bne_self_eq_false, Bool.bne_false] at h ⊢
  · have := G (by omega); omega
  · omega
  · have := L (by omega); have := z1 (by omega); omega
  · have := L (by omega); omega
theorem own_bits_of_zv {x : UInt64} (hn : val64 x ≠ .nan) {V : UInt64} (hV : DFin V) (h : zv x = zv V) : DFin x := by
  have q := hV.zval_lt
  cases e : val64 x with
  | nan => exact absurd e hn
  | fin s c r => exact ⟨s, c, r, e⟩
  | inf s =>
    exfalso
    have a1 : (zv x).natAbs = zmag b64 (val64 x) := by unfold zv zval; cases sgn (val64 x) <;> simp [signed]
    have a2 : (zv V).natAbs = zmag b64 (val64 V) := by unfold zv zval; cases sgn (val64 V) <;> simp [signed]
    rw [h, a2, e] at a1
    rw [a1] at q
    exact Nat.lt_irrefl _ q
/-- every n / 2^k of at most 53 digits is a double -/
theorem own_rep (n : Int) (k : Nat) (h1 : n.natAbs < 9007199254740992) (hk : k ≤ 1074) : ∃ V : UInt64, DFin V ∧ zv V * ((2 ^ k : Nat) : Int) = n * uu := by
  obtain ⟨c', q', e1, e2⟩ := FP.Core.round_exact good_b64 (decide (n < 0)) (c := n.natAbs) (q := -(k : Int)) (by exact h1) (by rw [own_qm]; omega) (by have h971 : b64.qmax = 971 := (by decide); omega)
  have f := FP.Core.round_fits good_b64 (.fin (decide (n < 0)) n.natAbs (-(k : Int)))
  refine ⟨FP.Core.of64 (FP.Core.round b64 (.fin (decide (n < 0)) n.natAbs (-(k : Int)))), ⟨decide (n < 0), c', q', by rw [FP.Core.val64_of64 f, e1]⟩, ?_⟩
  unfold zv
  rw [FP.Core.val64_of64 f, e1]
  show signed (decide (n < 0)) (inUnits c' q' b64.qmin) * _ = _
  rw [e2]
  unfold inUnits
  rw [FP.Core.signed_mul, Int.mul_assoc, ← Int.natCast_mul, ← Nat.pow_add, show (-(k : Int) - b64.qmin).toNat + k = 1074 by rw [own_qm]; omega]
  have s0 : signed (decide (n < 0)) n.natAbs = n := by
    unfold signed
    by_cases q : n < 0 <;> simp [q] <;> omega
  rw [s0]; rfl
/-- x is the number n / 2^k -/
def Dy (x : UInt64) (n : Int) (k : Nat) : Prop := DFin x ∧ zv x * ((2 ^ k : Nat) : Int) = n * uu
theorem Dy.fin {x : UInt64} {n : Int} {k : Nat} (D : Dy x n k) : DFin x := D.1
theorem Dy.nn {x : UInt64} {n : Int} {k : Nat} (D : Dy x n k) : NoNaN64 x := Fl.val64_no.mpr D.1.ne_nan
theorem own_pk (k : Nat) : 0 < ((2 ^ k : Nat) : Int) := by have := Nat.two_pow_pos k; omega
theorem own_mid {a b c d : Int} {k : Nat} (h1 : a * ((2 ^ k : Nat) : Int) = c) (h2 : b * ((2 ^ k : Nat) : Int) = d) : (a ≤ b ↔ c ≤ d) ∧ (a < b ↔ c < d) ∧ (a = b ↔ c = d) := by
  have p := own_pk k
  subst h1 h2
  generalize ((2 ^ k : Nat) : Int) = w at *
  exact ⟨(Int.mul_le_mul_right p).symm, (Int.mul_lt_mul_right p).symm, ⟨fun q => by rw [q], fun q => Int.eq_of_mul_eq_mul_right (by omega) q⟩⟩
theorem Dy.cmp {x y : UInt64} {n m : Int} {k : Nat} (A : Dy x n k) (B : Dy y m k) : FP.dcmp x y = some (compare n m) := by
  show FP.Core.dcmp x y = _
  rw [FP.Core.dcmp_zval A.1.ne_nan B.1.ne_nan]
  congr 1
  obtain ⟨-, q2, q3⟩ := own_mid A.2 B.2
  have u := uu_pos
  refine FP.Core.compare_congr (q2.trans ⟨fun q => ?_, fun q => Int.mul_lt_mul_of_pos_right q u⟩) (q3.trans ⟨fun q => Int.eq_of_mul_eq_mul_right (by omega) q, fun q => by rw [q]⟩)
  exact Int.lt_of_mul_lt_mul_right q (Int.le_of_lt u)
theorem Dy.lt {x y : UInt64} {n m : Int} {k : Nat} (A : Dy x n k) (B : Dy y m k) : FP.dcmp x y = some .lt ↔ n < m := by
  rw [A.cmp B, Option.some.injEq, FP.Core.compare_lt_iff]
theorem Dy.gt {x y : UInt64} {n m : Int} {k : Nat} (A : Dy x n k) (B : Dy y m k) : FP.dcmp x y = some .gt ↔ m < n := by
  rw [A.cmp B, Option.some.injEq, FP.Core.compare_gt_iff]
theorem Dy.eq {x y : UInt64} {n m : Int} {k : Nat} (A : Dy x n k) (B : Dy y m k) : FP.dcmp x y = some .eq ↔ n = m := by
  rw [A.cmp B, Option.some.injEq, FP.Core.compare_eq_iff]
theorem Dy.of_zv {x V : UInt64} {n : Int} {k : Nat} (hn : val64 x ≠ .nan) (hV : DFin V) (e : zv V * ((2 ^ k : Nat) : Int) = n * uu) (h1 : zv x ≤ zv V) (h2 : zv V ≤ zv x) : Dy x n k := by
  have q : zv x = zv V := by omega
  exact ⟨own_bits_of_zv hn hV q, by rw [q]; exact e⟩
theorem own_nn_add {x y : UInt64} (hx : DFin x) (hy : DFin y) : val64 (FP.dadd x y) ≠ .nan := Fl.val64_no.mp (Fl.noNaN64_no.mpr (FP.Core.dadd_out hx.notNaN hy))
theorem own_nn_sub {x y : UInt64} (hx : DFin x) (hy : DFin y) : val64 (FP.dsub x y) ≠ .nan := Fl.val64_no.mp (Fl.noNaN64_no.mpr (FP.Core.dsub_out hx.notNaN hy))
theorem own_nn_mul {x y : UInt64} (hx : DFin x) (hy : DFin y) : val64 (FP.dmul x y) ≠ .nan := Fl.val64_no.mp (Fl.noNaN64_no.mpr (FP.Core.dmul_out hx hy))
theorem own_nn_div {x y : UInt64} (hx : DFin x) (hy : DFin y) (hz : ¬ DZero y) : val64 (FP.ddiv x y) ≠ .nan := Fl.val64_no.mp (Fl.noNaN64_no.mpr (FP.Core.ddiv_out hx.notNaN hy hz))
theorem Dy.add {x y : UInt64} {n m : Int} {k : Nat} (A : Dy x n k) (B : Dy y m k) (hb : (n + m).natAbs < 9007199254740992) (hk : k ≤ 1074) : Dy (FP.dadd x y) (n + m) k := by
  obtain ⟨V, fV, eV⟩ := own_rep (n + m) k hb hk
  have e : (zv x + zv y) * ((2 ^ k : Nat) : Int) = (n + m) * uu := by rw [Int.add_mul, A.2, B.2, Int.add_mul]
  obtain ⟨-, -, q⟩ := own_mid e eV
  have q := q.mpr rfl
  exact Dy.of_zv (own_nn_add A.1 B.1) fV eV (own_add_le A.1 B.1 fV.ne_nan (by omega)) (own_add_ge A.1 B.1 fV.ne_nan (by omega))
theorem Dy.sub {x y : UInt64} {n m : Int} {k : Nat} (A : Dy x n k) (B : Dy y m k) (hb : (n - m).natAbs < 9007199254740992) (hk : k ≤ 1074) : Dy (FP.dsub x y) (n - m) k := by
  obtain ⟨V, fV, eV⟩ := own_rep (n - m) k hb hk
  have e : (zv x - zv y) * ((2 ^ k : Nat) : Int) = (n - m) * uu := by rw [Int.sub_mul, A.2, B.2, Int.sub_mul]
  obtain ⟨-, -, q⟩ := own_mid e eV
  have q := q.mpr rfl
  exact Dy.of_zv (own_nn_sub A.1 B.1) fV eV (own_sub_le A.1 B.1 fV.ne_nan (by omega)) (own_sub_ge A.1 B.1 fV.ne_nan (by omega))
theorem own_alg1 {X Y K J n m u : Int} (a : X * K = n * u) (b : Y * J = m * u) : X * Y * (K * J) = n * m * u * u := by
  calc X * Y * (K * J) = (X * K) * (Y * J) := by ac_rfl
    _ = (n * u) * (m * u) := by rw [a, b]
    _ = n * m * u * u := by ac_rfl
theorem own_alg2 {V K N u : Int} (e : V * K = N * u) : V * u * K = N * u * u := by
  calc V * u * K = V * K * u := by ac_rfl
    _ = N * u * u := by rw [e]
theorem own_alg3 {X Y V K J I n m r u : Int} (a : X * K = n * u) (b : Y * J = m * u) (e : V * I = r * u) : X * u * (K * (J * I)) = n * (J * I) * (u * u) ∧ V * Y * (K * (J * I)) = r * m * K * (u * u) := by
  constructor
  · calc X * u * (K * (J * I)) = (X * K) * u * (J * I) := by ac_rfl
      _ = n * u * u * (J * I) := by rw [a]
      _ = n * (J * I) * (u * u) := by ac_rfl
  · calc V * Y * (K * (J * I)) = (V * I) * (Y * J) * K := by ac_rfl
      _ = (r * u) * (m * u) * K := by rw [e, b]
      _ = r * m * K * (u * u) := by ac_rfl
theorem Dy.mul {x y : UInt64} {n m : Int} {k j : Nat} (A : Dy x n k) (B : Dy y m j) (hb : (n * m).natAbs < 9007199254740992) (hk : k + j ≤ 1074) : Dy (FP.dmul x y) (n * m) (k + j) := by
  obtain ⟨V, fV, eV⟩ := own_rep (n * m) (k + j) hb hk
  have e : (zv x * zv y) * ((2 ^ (k + j) : Nat) : Int) = (n * m) * uu * uu := by
    rw [Nat.pow_add, Int.natCast_mul]; exact own_alg1 A.2 B.2
  have e' : (zv V * uu) * ((2 ^ (k + j) : Nat) : Int) = (n * m) * uu * uu := own_alg2 eV
  obtain ⟨-, -, q⟩ := own_mid e e'
  have q := q.mpr rfl
  exact Dy.of_zv (own_nn_mul A.1 B.1) fV eV (own_mul_le A.1 B.1 fV.ne_nan (by omega)) (own_mul_ge A.1 B.1 fV.ne_nan (by omega))
theorem Dy.pos {y : UInt64} {m : Int} {j : Nat} (B : Dy y m j) (hm : 0 < m) : 0 < zv y := by
  have p := own_pk j
  have b := B.2
  have : 0 < m * uu := Int.mul_pos hm uu_pos
  rw [← b] at this
  exact Int.lt_of_mul_lt_mul_right (by rw [Int.zero_mul]; exact this) (Int.le_of_lt p)
/-- an exact quotient -/
theorem Dy.div {x y : UInt64} {n m r : Int} {k j i : Nat} (A : Dy x n k) (B : Dy y m j) (hm : 0 < m) (hq : n * ((2 ^ (j + i) : Nat) : Int) = r * m * ((2 ^ k : Nat) : Int)) (hb : r.natAbs < 9007199254740992) (hi : i ≤ 1074) : Dy (FP.ddiv x y) r i := by
  obtain ⟨V, fV, eV⟩ := own_rep r i hb hi
  have h0 := B.pos hm
  have e : zv x * uu = zv V * zv y := by
    have pk := own_pk k; have pj := own_pk j; have pi := own_pk i
    rw [Nat.pow_add, Int.natCast_mul] at hq
    obtain ⟨a1, a2⟩ := own_alg3 A.2 B.2 eV
    refine Int.eq_of_mul_eq_mul_right (a := ((2 ^ k : Nat) : Int) * (((2 ^ j : Nat) : Int) * ((2 ^ i : Nat) : Int))) (Int.ne_of_gt (Int.mul_pos pk (Int.mul_pos pj pi))) ?_
    rw [a1, a2, hq]
  exact Dy.of_zv (own_nn_div A.1 B.1 (own_notz B.1 h0)) fV eV (own_div_le A.1 B.1 h0 fV.ne_nan (by omega)) (own_div_ge A.1 B.1 h0 fV.ne_nan (by omega))
theorem Dy.up {x : UInt64} {n : Int} {k : Nat} (A : Dy x n k) (j : Nat) : Dy x (n * ((2 ^ j : Nat) : Int)) (k + j) := by
  refine ⟨A.1, ?_⟩
  rw [Nat.pow_add, Int.natCast_mul, ← Int.mul_assoc, A.2]; exact Int.mul_right_comm _ _ _
theorem Dy.to {x : UInt64} {n n' : Int} {k : Nat} (A : Dy x n k) (e : n = n') : Dy x n' k := e ▸ A
theorem own_dy_int {x : UInt64} {i : Int} (h : FP.Core.DInt i x) : Dy x i 0 := by
  have z := FP.Core.DInt_zval h
  have n := FP.Core.DInt_ne_nan h
  refine ⟨?_, by rw [show ((2 ^ 0 : Nat) : Int) = 1 from rfl, Int.mul_one]; exact z⟩
  unfold FP.Core.DInt at h
  cases e : val64 x with
  | nan => exact absurd e n
  | inf s => rw [e] at h; exact h.elim
  | fin s c q => exact ⟨s, c, q, e⟩
theorem dy_i2d (a : Int32) : Dy (FP.i2d a) a.toInt 0 := own_dy_int (FP.Core.i2d_int a)
theorem dy_l2d {a : Int64} (h1 : -9007199254740992 < a.toInt) (h2 : a.toInt < 9007199254740992) : Dy (FP.l2d a) a.toInt 0 := own_dy_int (FP.Core.l2d_whole ⟨h1, h2⟩)
/-- 0.0 + x is x, bit for bit, for a finite x that isn't -0.0 -/
theorem own_zero_add {x : UInt64} {s : Bool} {c : Nat} {q : Int} (hx : val64 x = .fin s c q) (h0 : c = 0 → s = false) : FP.dadd 0 x = x := by
  show FP.Core.dadd 0 x = x
  have fx := val64_fits x
  rw [hx] at fx
  have hq := fx.2.1
  have key : val64 (FP.Core.dadd 0 x) = .fin s c q := by
    rw [FP.Core.val64_dadd, FP.Core.val64_zero, hx]
    have m : min b64.qmin q = b64.qmin := by omega
    have u : FP.Core.sumUnits false 0 b64.qmin s c q b64.qmin = signed s (inUnits c q b64.qmin) := by
      unfold FP.Core.sumUnits; simp [signed, inUnits]
    show FP.Core.roundRatio b64 (FP.Core.sumSign false s (FP.Core.sumUnits false 0 b64.qmin s c q (min b64.qmin q))) (FP.Core.sumUnits false 0 b64.qmin s c q (min b64.qmin q)).natAbs 1 (min b64.qmin q) = _
    rw [m, u]
    have na : (signed s (inUnits c q b64.qmin)).natAbs = inUnits c q b64.qmin := by unfold signed; cases s <;> simp
    have sg : FP.Core.sumSign false s (signed s (inUnits c q b64.qmin)) = s := by
      have pp := Nat.two_pow_pos (q - b64.qmin).toNat
      unfold FP.Core.sumSign
      by_cases c0 : c = 0
      · subst c0; simp [signed, inUnits, h0 rfl]
      · have : 0 < inUnits c q b64.qmin := Nat.mul_pos (Nat.pos_of_ne_zero c0) pp
        cases s <;> simp [signed] <;> omega
    rw [na, sg]
    refine FP.Core.roundRatio_exact good_b64 (by decide) fx ?_
    rw [show (b64.qmin - q).toNat = 0 by omega, Nat.pow_zero, Nat.mul_one, Nat.mul_one]; rfl
  exact FP.Core.val64_inj (by rw [key]; exact FP.Core.Datum.noConfusion) (key.trans hx.symm)
theorem own_scale3 {X Y n m r : Int} {k j i : Nat} {V : Int} (a : X * ((2 ^ k : Nat) : Int) = n * uu) (b : Y * ((2 ^ j : Nat) : Int) = m * uu) (e : V * ((2 ^ i : Nat) : Int) = r * uu) :
    X * uu * (((2 ^ k : Nat) : Int) * (((2 ^ j : Nat) : Int) * ((2 ^ i : Nat) : Int))) = n * ((2 ^ (j + i) : Nat) : Int) * (uu * uu) ∧ V * Y * (((2 ^ k : Nat) : Int) * (((2 ^ j : Nat) : Int) * ((2 ^ i : Nat) : Int))) = r * m * ((2 ^ k : Nat) : Int) * (uu * uu) := by
  rw [Nat.pow_add, Int.natCast_mul]; exact own_alg3 a b e
theorem Dy.div_le {x y V : UInt64} {n m r : Int} {k j i : Nat} (A : Dy x n k) (B : Dy y m j) (hm : 0 < m) (C : Dy V r i) (h : n * ((2 ^ (j + i) : Nat) : Int) ≤ r * m * ((2 ^ k : Nat) : Int)) : zv (FP.ddiv x y) ≤ zv V := by
  refine own_div_le A.1 B.1 (B.pos hm) C.1.ne_nan ?_
  obtain ⟨e1, e2⟩ := own_scale3 A.2 B.2 C.2
  have p : 0 < ((2 ^ k : Nat) : Int) * (((2 ^ j : Nat) : Int) * ((2 ^ i : Nat) : Int)) := Int.mul_pos (own_pk k) (Int.mul_pos (own_pk j) (own_pk i))
  refine Int.le_of_mul_le_mul_right ?_ p
  rw [e1, e2]
  exact Int.mul_le_mul_of_nonneg_right h (Int.le_of_lt (Int.mul_pos uu_pos uu_pos))
theorem Dy.div_ge {x y V : UInt64} {n m r : Int} {k j i : Nat} (A : Dy x n k) (B : Dy y m j) (hm : 0 < m) (C : Dy V r i) (h : r * m * ((2 ^ k : Nat) : Int) ≤ n * ((2 ^ (j + i) : Nat) : Int)) : zv V ≤ zv (FP.ddiv x y) := by
  refine own_div_ge A.1 B.1 (B.pos hm) C.1.ne_nan ?_
  obtain ⟨e1, e2⟩ := own_scale3 A.2 B.2 C.2
  have p : 0 < ((2 ^ k : Nat) : Int) * (((2 ^ j : Nat) : Int) * ((2 ^ i : Nat) : Int)) := Int.mul_pos (own_pk k) (Int.mul_pos (own_pk j) (own_pk i))
  refine Int.le_of_mul_le_mul_right ?_ p
  rw [e1, e2]
  exact Int.mul_le_mul_of_nonneg_right h (Int.le_of_lt (Int.mul_pos uu_pos uu_pos))
/-- the order of two numbers written over one power of two -/
theorem Dy.zle {x y : UInt64} {n m : Int} {k : Nat} (A : Dy x n k) (B : Dy y m k) : (zv x ≤ zv y ↔ n ≤ m) ∧ (zv x < zv y ↔ n < m) := by
  obtain ⟨q1, q2, -⟩ := own_mid A.2 B.2
  have u := uu_pos
  exact ⟨q1.trans ⟨fun q => Int.le_of_mul_le_mul_right q u, fun q => Int.mul_le_mul_of_nonneg_right q (Int.le_of_lt u)⟩, q2.trans ⟨fun q => Int.lt_of_mul_lt_mul_right q (Int.le_of_lt u), fun q => Int.mul_lt_mul_of_pos_right q u⟩⟩
end OwnF
section OwnB
open Jvm.FP.Core (val64 zval zmag b64 one64 DFin DZero good_b64 val64_fits inUnits signed sgn)
/-- a finite number from 0 to 2^K -/
def Bn (x : UInt64) (K : Nat) : Prop := DFin x ∧ 0 ≤ zv x ∧ zv x ≤ ((2 ^ K : Nat) : Int) * uu
theorem Bn.nn {x : UInt64} {K : Nat} (B : Bn x K) : NoNaN64 x := Fl.val64_no.mpr B.1.ne_nan
theorem own_p52 {K : Nat} (h : K ≤ 52) : 2 ^ K ≤ 4503599627370496 := by
  have := Nat.pow_le_pow_right (show 0 < 2 by decide) h
  have e : 2 ^ 52 = 4503599627370496 := by decide
  omega
theorem own_pwd (K : Nat) (h : K ≤ 52) : ∃ V, DFin V ∧ zv V = ((2 ^ K : Nat) : Int) * uu := by
  have p := own_p52 h
  obtain ⟨V, f, e⟩ := own_rep ((2 ^ K : Nat) : Int) 0 (by rw [Int.natAbs_natCast]; omega) (by omega)
  rw [show ((2 ^ 0 : Nat) : Int) = 1 from rfl, Int.mul_one] at e
  exact ⟨V, f, e⟩
theorem own_zabs (V : UInt64) : (zv V).natAbs = zmag b64 (val64 V) := by unfold zv zval; cases sgn (val64 V) <;> simp [signed]
theorem own_fin_le {x V : UInt64} (hn : val64 x ≠ .nan) (hV : DFin V) (h : (zv x).natAbs ≤ (zv V).natAbs) : DFin x := by
  have q := hV.zval_lt
  cases e : val64 x with
  | nan => exact absurd e hn
  | fin s c r => exact ⟨s, c, r, e⟩
  | inf s =>
    exfalso
    rw [own_zabs, own_zabs, e] at h
    exact Nat.lt_irrefl _ (Nat.lt_of_le_of_lt h q)
theorem Bn.of {x : UInt64} {K : Nat} (hK : K ≤ 52) (hn : val64 x ≠ .nan) (h0 : 0 ≤ zv x) (h : ∀ V, DFin V → zv V = ((2 ^ K : Nat) : Int) * uu → zv x ≤ zv V) : Bn x K := by
  obtain ⟨V, f, e⟩ := own_pwd K hK
  have q := h V f e
  exact ⟨own_fin_le hn f (by omega), h0, by rw [← e]; exact q⟩
theorem own_pmono {K J : Nat} (h : K ≤ J) : ((2 ^ K : Nat) : Int) ≤ ((2 ^ J : Nat) : Int) := by
  have := Nat.pow_le_pow_right (show 0 < 2 by decide) h; omega
theorem Bn.mono {x : UInt64} {K J : Nat} (B : Bn x K) (h : K ≤ J) : Bn x J :=
  ⟨B.1, B.2.1, Int.le_trans B.2.2 (Int.mul_le_mul_of_nonneg_right (own_pmono h) (Int.le_of_lt uu_pos))⟩
theorem own_z0 : DFin (0 : UInt64) ∧ zv (0 : UInt64) = 0 := ⟨⟨false, 0, -1074, by decide +kernel⟩, by decide +kernel⟩
theorem own_bn0 (K : Nat) : Bn (0 : UInt64) K := ⟨own_z0.1, by rw [own_z0.2]; exact Int.le_refl _, by rw [own_z0.2]; exact Int.mul_nonneg (Int.natCast_nonneg _) (Int.le_of_lt uu_pos)⟩
theorem own_ge0 {x : UInt64} (h : zv (0 : UInt64) ≤ zv x) : 0 ≤ zv x := by rw [own_z0.2] at h; exact h
theorem own_alg4 (A B u : Int) : A * u * (B * u) = A * B * u * u := by ac_rfl
theorem own_alg5 (A B u y : Int) : A * u * (y * B) = A * B * u * y := by ac_rfl
theorem Bn.add {x y : UInt64} {K : Nat} (A : Bn x K) (B : Bn y K) (h : K ≤ 51) : Bn (FP.dadd x y) (K + 1) := by
  have a := A.2; have b := B.2
  refine Bn.of (by omega) (own_nn_add A.1 B.1) (own_ge0 (own_add_ge A.1 B.1 own_z0.1.ne_nan (by rw [own_z0.2]; omega))) fun V f e => own_add_le A.1 B.1 f.ne_nan ?_
  rw [e, Nat.pow_succ, Int.natCast_mul, Int.mul_assoc]
  have e2 : ((2 : Nat) : Int) * uu = uu + uu := by omega
  rw [e2, Int.mul_add]; omega
theorem Bn.mul {x y : UInt64} {K J : Nat} (A : Bn x K) (B : Bn y J) (h : K + J ≤ 52) : Bn (FP.dmul x y) (K + J) := by
  have a := A.2; have b := B.2
  refine Bn.of h (own_nn_mul A.1 B.1) (own_ge0 (own_mul_ge A.1 B.1 own_z0.1.ne_nan (by rw [own_z0.2, Int.zero_mul]; exact Int.mul_nonneg a.1 b.1))) fun V f e => own_mul_le A.1 B.1 f.ne_nan ?_
  rw [e, Nat.pow_add, Int.natCast_mul]
  refine Int.le_trans (Int.mul_le_mul a.2 b.2 b.1 (Int.mul_nonneg (Int.natCast_nonneg _) (Int.le_of_lt uu_pos))) (Int.le_of_eq ?_)
  exact own_alg4 _ _ _
/-- a quotient by at least 2^-J -/
theorem Bn.div {x y : UInt64} {K J : Nat} (A : Bn x K) (hy : DFin y) (hl : uu ≤ zv y * ((2 ^ J : Nat) : Int)) (h : K + J ≤ 52) : Bn (FP.ddiv x y) (K + J) := by
  have a := A.2
  have u := uu_pos
  have h0 : 0 < zv y := by
    exact Int.lt_of_mul_lt_mul_right (a := ((2 ^ J : Nat) : Int)) (by rw [Int.zero_mul]; omega) (Int.natCast_nonneg _)
  refine Bn.of h (own_nn_div A.1 hy (own_notz hy h0)) (own_ge0 (own_div_ge A.1 hy h0 own_z0.1.ne_nan (by rw [own_z0.2, Int.zero_mul]; exact Int.mul_nonneg a.1 (Int.le_of_lt u)))) fun V f e => own_div_le A.1 hy h0 f.ne_nan ?_
  rw [e, Nat.pow_add, Int.natCast_mul]
  refine Int.le_trans (Int.mul_le_mul a.2 hl (Int.le_of_lt u) (Int.mul_nonneg (Int.natCast_nonneg _) (Int.le_of_lt u))) (Int.le_of_eq ?_)
  exact own_alg5 _ _ _ _
theorem Dy.bn {x : UInt64} {n : Int} {k K : Nat} (D : Dy x n k) (h0 : 0 ≤ n) (h : n ≤ ((2 ^ (K + k) : Nat) : Int)) : Bn x K := by
  have u := uu_pos
  have p := own_pk k
  have d := D.2
  refine ⟨D.1, ?_, ?_⟩
  · refine Int.le_of_mul_le_mul_right (a := ((2 ^ k : Nat) : Int)) ?_ p
    rw [d, Int.zero_mul]; exact Int.mul_nonneg h0 (Int.le_of_lt u)
  · refine Int.le_of_mul_le_mul_right (a := ((2 ^ k : Nat) : Int)) ?_ p
    rw [d]
    rw [Nat.pow_add, Int.natCast_mul] at h
    refine Int.le_trans (Int.mul_le_mul_of_nonneg_right h (Int.le_of_lt u)) (Int.le_of_eq ?_)
    exact Int.mul_right_comm _ _ _
theorem Dy.lo {x : UInt64} {n : Int} {k : Nat} (D : Dy x n k) (h : 1 ≤ n) : uu ≤ zv x * ((2 ^ k : Nat) : Int) := by
  rw [D.2]; calc uu = 1 * uu := (Int.one_mul _).symm
    _ ≤ n * uu := Int.mul_le_mul_of_nonneg_right h (Int.le_of_lt uu_pos)
end OwnB
theorem pn_com_example_bidfold_bidfold_BranchingLearnPinLaw : plainName "com/example/bidfold/bidfold/BranchingLearnPinLaw" = true := by first | (simp [plainName, overriddenIn]; done) | decide +kernel
theorem pn_com_example_bidfold_bidfold_Branching : plainName "com/example/bidfold/bidfold/Branching" = true := by first | (simp [plainName, overriddenIn]; done) | decide +kernel
theorem d1_0 : decode prog_13_method_1_code 0 = .ok (.aload_n 0, 1) := by decide +kernel
theorem d1_1 : decode prog_13_method_1_code 1 = .ok (.invokespecial 1, 3) := by decide +kernel
theorem d1_4 : decode prog_13_method_1_code 4 = .ok (.aload_n 0, 1) := by decide +kernel
theorem d1_5 : decode prog_13_method_1_code 5 = .ok (.iload_n 1, 1) := by decide +kernel
theorem d1_6 : decode prog_13_method_1_code 6 = .ok (.putfield 7, 3) := by decide +kernel
theorem d1_9 : decode prog_13_method_1_code 9 = .ok (.aload_n 0, 1) := by decide +kernel
theorem d1_10 : decode prog_13_method_1_code 10 = .ok (.lload_n 2, 1) := by decide +kernel
theorem d1_11 : decode prog_13_method_1_code 11 = .ok (.putfield 13, 3) := by decide +kernel
theorem d1_14 : decode prog_13_method_1_code 14 = .ok (.aload_n 0, 1) := by decide +kernel
theorem d1_15 : decode prog_13_method_1_code 15 = .ok (.iload_n 1, 1) := by decide +kernel
theorem d1_16 : decode prog_13_method_1_code 16 = .ok (.newarray .double, 2) := by decide +kernel
theorem d1_18 : decode prog_13_method_1_code 18 = .ok (.putfield 17, 3) := by decide +kernel
theorem d1_21 : decode prog_13_method_1_code 21 = .ok (.aload_n 0, 1) := by decide +kernel
theorem d1_22 : decode prog_13_method_1_code 22 = .ok (.iload_n 1, 1) := by decide +kernel
theorem d1_23 : decode prog_13_method_1_code 23 = .ok (.newarray .int, 2) := by decide +kernel
theorem d1_25 : decode prog_13_method_1_code 25 = .ok (.putfield 21, 3) := by decide +kernel
theorem d1_28 : decode prog_13_method_1_code 28 = .ok (.aload_n 0, 1) := by decide +kernel
theorem d1_29 : decode prog_13_method_1_code 29 = .ok (.iload_n 1, 1) := by decide +kernel
theorem d1_30 : decode prog_13_method_1_code 30 = .ok (.newarray .double, 2) := by decide +kernel
theorem d1_32 : decode prog_13_method_1_code 32 = .ok (.putfield 25, 3) := by decide +kernel
theorem d1_35 : decode prog_13_method_1_code 35 = .ok (.aload_n 0, 1) := by decide +kernel
theorem d1_36 : decode prog_13_method_1_code 36 = .ok (.iload_n 1, 1) := by decide +kernel
theorem d1_37 : decode prog_13_method_1_code 37 = .ok (.newarray .int, 2) := by decide +kernel
theorem d1_39 : decode prog_13_method_1_code 39 = .ok (.putfield 28, 3) := by decide +kernel
theorem d1_42 : decode prog_13_method_1_code 42 = .ok (.aload_n 0, 1) := by decide +kernel
theorem d1_43 : decode prog_13_method_1_code 43 = .ok (.iload_n 1, 1) := by decide +kernel
theorem d1_44 : decode prog_13_method_1_code 44 = .ok (.newarray .int, 2) := by decide +kernel
theorem d1_46 : decode prog_13_method_1_code 46 = .ok (.putfield 31, 3) := by decide +kernel
theorem d1_49 : decode prog_13_method_1_code 49 = .ok (.return_, 1) := by decide +kernel
theorem d3_0 : decode prog_13_method_3_code 0 = .ok (.dload_n 3, 1) := by decide +kernel
theorem d3_1 : decode prog_13_method_3_code 1 = .ok (.ldc2_w 46, 3) := by decide +kernel
theorem d3_4 : decode prog_13_method_3_code 4 = .ok (.dcmp .g, 1) := by decide +kernel
theorem d3_5 : decode prog_13_method_3_code 5 = .ok (.ifCond .le 11, 3) := by decide +kernel
theorem d3_8 : decode prog_13_method_3_code 8 = .ok (.dload_n 3, 1) := by decide +kernel
theorem d3_9 : decode prog_13_method_3_code 9 = .ok (.ldc2_w 48, 3) := by decide +kernel
theorem d3_12 : decode prog_13_method_3_code 12 = .ok (.dcmp .l, 1) := by decide +kernel
theorem d3_13 : decode prog_13_method_3_code 13 = .ok (.ifCond .lt 4, 3) := by decide +kernel
theorem d3_16 : decode prog_13_method_3_code 16 = .ok (.return_, 1) := by decide +kernel
theorem d3_17 : decode prog_13_method_3_code 17 = .ok (.iload_n 2, 1) := by decide +kernel
theorem d3_18 : decode prog_13_method_3_code 18 = .ok (.ifCond .eq 31, 3) := by decide +kernel
theorem d3_21 : decode prog_13_method_3_code 21 = .ok (.aload_n 0, 1) := by decide +kernel
theorem d3_22 : decode prog_13_method_3_code 22 = .ok (.getfield 25, 3) := by decide +kernel
theorem d3_25 : decode prog_13_method_3_code 25 = .ok (.iload_n 1, 1) := by decide +kernel
theorem d3_26 : decode prog_13_method_3_code 26 = .ok (.dup2, 1) := by decide +kernel
theorem d3_27 : decode prog_13_method_3_code 27 = .ok (.daload, 1) := by decide +kernel
theorem d3_28 : decode prog_13_method_3_code 28 = .ok (.dload 5, 2) := by decide +kernel
theorem d3_30 : decode prog_13_method_3_code 30 = .ok (.dconst 1, 1) := by decide +kernel
theorem d3_31 : decode prog_13_method_3_code 31 = .ok (.dload_n 3, 1) := by decide +kernel
theorem d3_32 : decode prog_13_method_3_code 32 = .ok (.dsub, 1) := by decide +kernel
theorem d3_33 : decode prog_13_method_3_code 33 = .ok (.ddiv, 1) := by decide +kernel
theorem d3_34 : decode prog_13_method_3_code 34 = .ok (.dadd, 1) := by decide +kernel
theorem d3_35 : decode prog_13_method_3_code 35 = .ok (.dastore, 1) := by decide +kernel
theorem d3_36 : decode prog_13_method_3_code 36 = .ok (.aload_n 0, 1) := by decide +kernel
theorem d3_37 : decode prog_13_method_3_code 37 = .ok (.getfield 28, 3) := by decide +kernel
theorem d3_40 : decode prog_13_method_3_code 40 = .ok (.iload_n 1, 1) := by decide +kernel
theorem d3_41 : decode prog_13_method_3_code 41 = .ok (.dup2, 1) := by decide +kernel
theorem d3_42 : decode prog_13_method_3_code 42 = .ok (.iaload, 1) := by decide +kernel
theorem d3_43 : decode prog_13_method_3_code 43 = .ok (.iconst 1, 1) := by decide +kernel
theorem d3_44 : decode prog_13_method_3_code 44 = .ok (.iadd, 1) := by decide +kernel
theorem d3_45 : decode prog_13_method_3_code 45 = .ok (.iastore, 1) := by decide +kernel
theorem d3_46 : decode prog_13_method_3_code 46 = .ok (.goto 26, 3) := by decide +kernel
theorem d3_49 : decode prog_13_method_3_code 49 = .ok (.aload_n 0, 1) := by decide +kernel
theorem d3_50 : decode prog_13_method_3_code 50 = .ok (.getfield 17, 3) := by decide +kernel
theorem d3_53 : decode prog_13_method_3_code 53 = .ok (.iload_n 1, 1) := by decide +kernel
theorem d3_54 : decode prog_13_method_3_code 54 = .ok (.dup2, 1) := by decide +kernel
theorem d3_55 : decode prog_13_method_3_code 55 = .ok (.daload, 1) := by decide +kernel
theorem d3_56 : decode prog_13_method_3_code 56 = .ok (.dload 5, 2) := by decide +kernel
theorem d3_58 : decode prog_13_method_3_code 58 = .ok (.dload_n 3, 1) := by decide +kernel
theorem d3_59 : decode prog_13_method_3_code 59 = .ok (.ddiv, 1) := by decide +kernel
theorem d3_60 : decode prog_13_method_3_code 60 = .ok (.dadd, 1) := by decide +kernel
theorem d3_61 : decode prog_13_method_3_code 61 = .ok (.dastore, 1) := by decide +kernel
theorem d3_62 : decode prog_13_method_3_code 62 = .ok (.aload_n 0, 1) := by decide +kernel
theorem d3_63 : decode prog_13_method_3_code 63 = .ok (.getfield 21, 3) := by decide +kernel
theorem d3_66 : decode prog_13_method_3_code 66 = .ok (.iload_n 1, 1) := by decide +kernel
theorem d3_67 : decode prog_13_method_3_code 67 = .ok (.dup2, 1) := by decide +kernel
theorem d3_68 : decode prog_13_method_3_code 68 = .ok (.iaload, 1) := by decide +kernel
theorem d3_69 : decode prog_13_method_3_code 69 = .ok (.iconst 1, 1) := by decide +kernel
theorem d3_70 : decode prog_13_method_3_code 70 = .ok (.iadd, 1) := by decide +kernel
theorem d3_71 : decode prog_13_method_3_code 71 = .ok (.iastore, 1) := by decide +kernel
theorem d3_72 : decode prog_13_method_3_code 72 = .ok (.return_, 1) := by decide +kernel
theorem d4_0 : decode method_3_code 0 = .ok (.dload_n 2, 1) := by decide +kernel
theorem d4_1 : decode method_3_code 1 = .ok (.ldc2_w 38, 3) := by decide +kernel
theorem d4_4 : decode method_3_code 4 = .ok (.dcmp .g, 1) := by decide +kernel
theorem d4_5 : decode method_3_code 5 = .ok (.ifCond .le 11, 3) := by decide +kernel
theorem d4_8 : decode method_3_code 8 = .ok (.dload_n 2, 1) := by decide +kernel
theorem d4_9 : decode method_3_code 9 = .ok (.ldc2_w 40, 3) := by decide +kernel
theorem d4_12 : decode method_3_code 12 = .ok (.dcmp .l, 1) := by decide +kernel
theorem d4_13 : decode method_3_code 13 = .ok (.ifCond .lt 4, 3) := by decide +kernel
theorem d4_16 : decode method_3_code 16 = .ok (.return_, 1) := by decide +kernel
theorem d4_17 : decode method_3_code 17 = .ok (.iload_n 1, 1) := by decide +kernel
theorem d4_18 : decode method_3_code 18 = .ok (.ifCond .eq 29, 3) := by decide +kernel
theorem d4_21 : decode method_3_code 21 = .ok (.aload 6, 2) := by decide +kernel
theorem d4_23 : decode method_3_code 23 = .ok (.iload_n 0, 1) := by decide +kernel
theorem d4_24 : decode method_3_code 24 = .ok (.dup2, 1) := by decide +kernel
theorem d4_25 : decode method_3_code 25 = .ok (.daload, 1) := by decide +kernel
theorem d4_26 : decode method_3_code 26 = .ok (.dload 4, 2) := by decide +kernel
theorem d4_28 : decode method_3_code 28 = .ok (.dconst 1, 1) := by decide +kernel
theorem d4_29 : decode method_3_code 29 = .ok (.dload_n 2, 1) := by decide +kernel
theorem d4_30 : decode method_3_code 30 = .ok (.dsub, 1) := by decide +kernel
theorem d4_31 : decode method_3_code 31 = .ok (.ddiv, 1) := by decide +kernel
theorem d4_32 : decode method_3_code 32 = .ok (.dadd, 1) := by decide +kernel
theorem d4_33 : decode method_3_code 33 = .ok (.dastore, 1) := by decide +kernel
theorem d4_34 : decode method_3_code 34 = .ok (.aload 7, 2) := by decide +kernel
theorem d4_36 : decode method_3_code 36 = .ok (.iload_n 0, 1) := by decide +kernel
theorem d4_37 : decode method_3_code 37 = .ok (.aload 7, 2) := by decide +kernel
theorem d4_39 : decode method_3_code 39 = .ok (.iload_n 0, 1) := by decide +kernel
theorem d4_40 : decode method_3_code 40 = .ok (.iaload, 1) := by decide +kernel
theorem d4_41 : decode method_3_code 41 = .ok (.iconst 1, 1) := by decide +kernel
theorem d4_42 : decode method_3_code 42 = .ok (.iadd, 1) := by decide +kernel
theorem d4_43 : decode method_3_code 43 = .ok (.iastore, 1) := by decide +kernel
theorem d4_44 : decode method_3_code 44 = .ok (.goto 24, 3) := by decide +kernel
theorem d4_47 : decode method_3_code 47 = .ok (.aload 8, 2) := by decide +kernel
theorem d4_49 : decode method_3_code 49 = .ok (.iload_n 0, 1) := by decide +kernel
theorem d4_50 : decode method_3_code 50 = .ok (.dup2, 1) := by decide +kernel
theorem d4_51 : decode method_3_code 51 = .ok (.daload, 1) := by decide +kernel
theorem d4_52 : decode method_3_code 52 = .ok (.dload 4, 2) := by decide +kernel
theorem d4_54 : decode method_3_code 54 = .ok (.dload_n 2, 1) := by decide +kernel
theorem d4_55 : decode method_3_code 55 = .ok (.ddiv, 1) := by decide +kernel
theorem d4_56 : decode method_3_code 56 = .ok (.dadd, 1) := by decide +kernel
theorem d4_57 : decode method_3_code 57 = .ok (.dastore, 1) := by decide +kernel
theorem d4_58 : decode method_3_code 58 = .ok (.aload 9, 2) := by decide +kernel
theorem d4_60 : decode method_3_code 60 = .ok (.iload_n 0, 1) := by decide +kernel
theorem d4_61 : decode method_3_code 61 = .ok (.aload 9, 2) := by decide +kernel
theorem d4_63 : decode method_3_code 63 = .ok (.iload_n 0, 1) := by decide +kernel
theorem d4_64 : decode method_3_code 64 = .ok (.iaload, 1) := by decide +kernel
theorem d4_65 : decode method_3_code 65 = .ok (.iconst 1, 1) := by decide +kernel
theorem d4_66 : decode method_3_code 66 = .ok (.iadd, 1) := by decide +kernel
theorem d4_67 : decode method_3_code 67 = .ok (.iastore, 1) := by decide +kernel
theorem d4_68 : decode method_3_code 68 = .ok (.return_, 1) := by decide +kernel
theorem d5_0 : decode prog_13_method_4_code 0 = .ok (.aload_n 0, 1) := by decide +kernel
theorem d5_1 : decode prog_13_method_4_code 1 = .ok (.getfield 25, 3) := by decide +kernel
theorem d5_4 : decode prog_13_method_4_code 4 = .ok (.aload_n 0, 1) := by decide +kernel
theorem d5_5 : decode prog_13_method_4_code 5 = .ok (.getfield 28, 3) := by decide +kernel
theorem d5_8 : decode prog_13_method_4_code 8 = .ok (.iload_n 1, 1) := by decide +kernel
theorem d5_9 : decode prog_13_method_4_code 9 = .ok (.dconst 1, 1) := by decide +kernel
theorem d5_10 : decode prog_13_method_4_code 10 = .ok (.invokestatic 63, 3) := by decide +kernel
theorem d5_13 : decode prog_13_method_4_code 13 = .ok (.dconst 1, 1) := by decide +kernel
theorem d5_14 : decode prog_13_method_4_code 14 = .ok (.dload_n 2, 1) := by decide +kernel
theorem d5_15 : decode prog_13_method_4_code 15 = .ok (.dsub, 1) := by decide +kernel
theorem d5_16 : decode prog_13_method_4_code 16 = .ok (.dmul, 1) := by decide +kernel
theorem d5_17 : decode prog_13_method_4_code 17 = .ok (.aload_n 0, 1) := by decide +kernel
theorem d5_18 : decode prog_13_method_4_code 18 = .ok (.getfield 17, 3) := by decide +kernel
theorem d5_21 : decode prog_13_method_4_code 21 = .ok (.aload_n 0, 1) := by decide +kernel
theorem d5_22 : decode prog_13_method_4_code 22 = .ok (.getfield 21, 3) := by decide +kernel
theorem d5_25 : decode prog_13_method_4_code 25 = .ok (.iload_n 1, 1) := by decide +kernel
theorem d5_26 : decode prog_13_method_4_code 26 = .ok (.dconst 1, 1) := by decide +kernel
theorem d5_27 : decode prog_13_method_4_code 27 = .ok (.invokestatic 63, 3) := by decide +kernel
theorem d5_30 : decode prog_13_method_4_code 30 = .ok (.dload_n 2, 1) := by decide +kernel
theorem d5_31 : decode prog_13_method_4_code 31 = .ok (.dmul, 1) := by decide +kernel
theorem d5_32 : decode prog_13_method_4_code 32 = .ok (.dcmp .g, 1) := by decide +kernel
theorem d5_33 : decode prog_13_method_4_code 33 = .ok (.ifCond .gt 7, 3) := by decide +kernel
theorem d5_36 : decode prog_13_method_4_code 36 = .ok (.iconst 1, 1) := by decide +kernel
theorem d5_37 : decode prog_13_method_4_code 37 = .ok (.goto 4, 3) := by decide +kernel
theorem d5_40 : decode prog_13_method_4_code 40 = .ok (.iconst 0, 1) := by decide +kernel
theorem d5_41 : decode prog_13_method_4_code 41 = .ok (.ireturn, 1) := by decide +kernel
theorem d6_0 : decode prog_13_method_7_code 0 = .ok (.aload_n 1, 1) := by decide +kernel
theorem d6_1 : decode prog_13_method_7_code 1 = .ok (.iload_n 2, 1) := by decide +kernel
theorem d6_2 : decode prog_13_method_7_code 2 = .ok (.iaload, 1) := by decide +kernel
theorem d6_3 : decode prog_13_method_7_code 3 = .ok (.ifCond .le 14, 3) := by decide +kernel
theorem d6_6 : decode prog_13_method_7_code 6 = .ok (.aload_n 0, 1) := by decide +kernel
theorem d6_7 : decode prog_13_method_7_code 7 = .ok (.iload_n 2, 1) := by decide +kernel
theorem d6_8 : decode prog_13_method_7_code 8 = .ok (.daload, 1) := by decide +kernel
theorem d6_9 : decode prog_13_method_7_code 9 = .ok (.aload_n 1, 1) := by decide +kernel
theorem d6_10 : decode prog_13_method_7_code 10 = .ok (.iload_n 2, 1) := by decide +kernel
theorem d6_11 : decode prog_13_method_7_code 11 = .ok (.iaload, 1) := by decide +kernel
theorem d6_12 : decode prog_13_method_7_code 12 = .ok (.i2d, 1) := by decide +kernel
theorem d6_13 : decode prog_13_method_7_code 13 = .ok (.ddiv, 1) := by decide +kernel
theorem d6_14 : decode prog_13_method_7_code 14 = .ok (.goto 4, 3) := by decide +kernel
theorem d6_17 : decode prog_13_method_7_code 17 = .ok (.dload_n 3, 1) := by decide +kernel
theorem d6_18 : decode prog_13_method_7_code 18 = .ok (.dreturn, 1) := by decide +kernel
theorem d7_0 : decode method_4_code 0 = .ok (.aload 4, 2) := by decide +kernel
theorem d7_2 : decode method_4_code 2 = .ok (.iload_n 0, 1) := by decide +kernel
theorem d7_3 : decode method_4_code 3 = .ok (.iaload, 1) := by decide +kernel
theorem d7_4 : decode method_4_code 4 = .ok (.ifCond .le 15, 3) := by decide +kernel
theorem d7_7 : decode method_4_code 7 = .ok (.aload_n 3, 1) := by decide +kernel
theorem d7_8 : decode method_4_code 8 = .ok (.iload_n 0, 1) := by decide +kernel
theorem d7_9 : decode method_4_code 9 = .ok (.daload, 1) := by decide +kernel
theorem d7_10 : decode method_4_code 10 = .ok (.aload 4, 2) := by decide +kernel
theorem d7_12 : decode method_4_code 12 = .ok (.iload_n 0, 1) := by decide +kernel
theorem d7_13 : decode method_4_code 13 = .ok (.iaload, 1) := by decide +kernel
theorem d7_14 : decode method_4_code 14 = .ok (.i2d, 1) := by decide +kernel
theorem d7_15 : decode method_4_code 15 = .ok (.ddiv, 1) := by decide +kernel
theorem d7_16 : decode method_4_code 16 = .ok (.goto 4, 3) := by decide +kernel
theorem d7_19 : decode method_4_code 19 = .ok (.dconst 1, 1) := by decide +kernel
theorem d7_20 : decode method_4_code 20 = .ok (.dstore 7, 2) := by decide +kernel
theorem d7_22 : decode method_4_code 22 = .ok (.aload 6, 2) := by decide +kernel
theorem d7_24 : decode method_4_code 24 = .ok (.iload_n 0, 1) := by decide +kernel
theorem d7_25 : decode method_4_code 25 = .ok (.iaload, 1) := by decide +kernel
theorem d7_26 : decode method_4_code 26 = .ok (.ifCond .le 16, 3) := by decide +kernel
theorem d7_29 : decode method_4_code 29 = .ok (.aload 5, 2) := by decide +kernel
theorem d7_31 : decode method_4_code 31 = .ok (.iload_n 0, 1) := by decide +kernel
theorem d7_32 : decode method_4_code 32 = .ok (.daload, 1) := by decide +kernel
theorem d7_33 : decode method_4_code 33 = .ok (.aload 6, 2) := by decide +kernel
theorem d7_35 : decode method_4_code 35 = .ok (.iload_n 0, 1) := by decide +kernel
theorem d7_36 : decode method_4_code 36 = .ok (.iaload, 1) := by decide +kernel
theorem d7_37 : decode method_4_code 37 = .ok (.i2d, 1) := by decide +kernel
theorem d7_38 : decode method_4_code 38 = .ok (.ddiv, 1) := by decide +kernel
theorem d7_39 : decode method_4_code 39 = .ok (.goto 4, 3) := by decide +kernel
theorem d7_42 : decode method_4_code 42 = .ok (.dconst 1, 1) := by decide +kernel
theorem d7_43 : decode method_4_code 43 = .ok (.dstore 9, 2) := by decide +kernel
theorem d7_45 : decode method_4_code 45 = .ok (.dload 7, 2) := by decide +kernel
theorem d7_47 : decode method_4_code 47 = .ok (.dconst 1, 1) := by decide +kernel
theorem d7_48 : decode method_4_code 48 = .ok (.dload_n 1, 1) := by decide +kernel
theorem d7_49 : decode method_4_code 49 = .ok (.dsub, 1) := by decide +kernel
theorem d7_50 : decode method_4_code 50 = .ok (.dmul, 1) := by decide +kernel
theorem d7_51 : decode method_4_code 51 = .ok (.dload 9, 2) := by decide +kernel
theorem d7_53 : decode method_4_code 53 = .ok (.dload_n 1, 1) := by decide +kernel
theorem d7_54 : decode method_4_code 54 = .ok (.dmul, 1) := by decide +kernel
theorem d7_55 : decode method_4_code 55 = .ok (.dcmp .g, 1) := by decide +kernel
theorem d7_56 : decode method_4_code 56 = .ok (.ifCond .gt 7, 3) := by decide +kernel
theorem d7_59 : decode method_4_code 59 = .ok (.iconst 1, 1) := by decide +kernel
theorem d7_60 : decode method_4_code 60 = .ok (.goto 4, 3) := by decide +kernel
theorem d7_63 : decode method_4_code 63 = .ok (.iconst 0, 1) := by decide +kernel
theorem d7_64 : decode method_4_code 64 = .ok (.ireturn, 1) := by decide +kernel
theorem pd_0 : parseMethodDescriptor "([D[IID)D" = some ⟨[(.array .double), (.array .int), .int, .double], some .double⟩ := by decide +kernel
theorem pd_1 : parseMethodDescriptor "(IJ)V" = some ⟨[.int, .long], none⟩ := by decide +kernel
theorem pd_2 : parseMethodDescriptor "(IZDD)V" = some ⟨[.int, .boolean, .double, .double], none⟩ := by decide +kernel
theorem pd_3 : parseMethodDescriptor "(IZDD[D[I[D[I)V" = some ⟨[.int, .boolean, .double, .double, (.array .double), (.array .int), (.array .double), (.array .int)], none⟩ := by decide +kernel
theorem pd_4 : parseMethodDescriptor "(ID)Z" = some ⟨[.int, .double], some .boolean⟩ := by decide +kernel
theorem pd_5 : parseMethodDescriptor "(ID[D[I[D[I)Z" = some ⟨[.int, .double, (.array .double), (.array .int), (.array .double), (.array .int)], some .boolean⟩ := by decide +kernel
theorem own_c4517329193108106637 : Dy (4517329193108106637 : UInt64) (4722366482869645) 72 := ⟨⟨false, 4722366482869645, -72, by decide +kernel⟩, by decide +kernel⟩
theorem own_c4607182409792818153 : Dy (4607182409792818153 : UInt64) (9007190247541737) 53 := ⟨⟨false, 9007190247541737, -53, by decide +kernel⟩, by decide +kernel⟩
theorem own_c4607182418800017408 : Dy (4607182418800017408 : UInt64) (1) 0 := ⟨⟨false, 4503599627370496, -52, by decide +kernel⟩, by decide +kernel⟩
theorem own_c4697254411347427328 : Dy (4697254411347427328 : UInt64) (1048576) 0 := ⟨⟨false, 4503599627370496, -32, by decide +kernel⟩, by decide +kernel⟩
theorem own_c4679239875398991872 : Dy (4679239875398991872 : UInt64) (65535) 0 := ⟨⟨false, 9007061815787520, -37, by decide +kernel⟩, by decide +kernel⟩

theorem own_bit {p n : Int32} (q : p &&& (1 : Int32) = n) : n = 0 ∨ n = 1 := by
  have h := c_mask p 1 1 (by decide) (by decide)
  have e : ((2 ^ 1 : Nat) : Int) = 2 := by decide
  rw [e, q] at h
  have e0 : (0 : Int32).toInt = 0 := by decide
  have e1 : (1 : Int32).toInt = 1 := by decide
  simp only [← Int32.toInt_inj]
  omega
theorem own_ite01 {b : Prop} [Decidable b] {w : Int32} (q : (if b then (0 : Int32) else (1 : Int32)) = w) : w = 0 ∨ w = 1 := by
  subst q; by_cases h : b
  · rw [if_pos h]; exact Or.inl rfl
  · rw [if_neg h]; exact Or.inr rfl
theorem own_vr (x : Int32) : -524288 ≤ ((x &&& (2097151 : Int32)) - (524288 : Int32)).toInt ∧ ((x &&& (2097151 : Int32)) - (524288 : Int32)).toInt ≤ 1572863 := by
  have h := c_mask x 2097151 21 (by decide) (by decide)
  have e : ((2 ^ 21 : Nat) : Int) = 2097152 := by decide
  rw [e] at h
  have e1 : (524288 : Int32).toInt = 524288 := by decide
  have r := c_isub (x &&& 2097151) 524288
  have b := rng32 ((x &&& 2097151) - 524288)
  rw [e1] at r
  omega
theorem own_fr (x : Int32) : 0 ≤ (x &&& (1048575 : Int32)).toInt ∧ (x &&& (1048575 : Int32)).toInt < 1048576 := by
  have h := c_mask x 1048575 20 (by decide) (by decide)
  have e : ((2 ^ 20 : Nat) : Int) = 1048576 := by decide
  rw [e] at h
  rw [h]; omega
theorem own_pr (x : Int32) : 0 ≤ (x &&& (65535 : Int32)).toInt ∧ (x &&& (65535 : Int32)).toInt ≤ 65535 := by
  have h := c_mask x 65535 16 (by decide) (by decide)
  have e : ((2 ^ 16 : Nat) : Int) = 65536 := by decide
  rw [e] at h
  rw [h]; omega
/-- between the two guards, n / 2^20 lies strictly between 0 and 1 -/
theorem own_in {v : UInt64} {n : Int} (D : Dy v n 20) (h1 : ¬ dle v (4517329193108106637 : UInt64)) (h2 : ¬ dge v (4607182409792818153 : UInt64)) : 0 < n ∧ n < 1048576 := by
  have c1 := Dy.cmp (D.up 52) own_c4517329193108106637
  have c2 := Dy.cmp (D.up 33) own_c4607182409792818153
  constructor
  · refine Int.lt_of_not_ge fun q => h1 (Or.inl (c1.trans (congrArg some ((FP.Core.compare_lt_iff _ _).mpr ?_))))
    rw [show ((2 ^ 52 : Nat) : Int) = 4503599627370496 from rfl]; omega
  · refine Int.lt_of_not_ge fun q => h2 (Or.inl (c2.trans (congrArg some ((FP.Core.compare_gt_iff _ _).mpr ?_))))
    rw [show ((2 ^ 33 : Nat) : Int) = 8589934592 from rfl]; omega
theorem own_lu {v f x : UInt64} {n m : Int} {K : Nat} (V : Dy v n 20) (F : Dy f m 0) (hm : 0 ≤ m ∧ m < 1048576) (B : Bn x K) (hK : 40 ≤ K ∧ K ≤ 50) (h1 : ¬ dle v (4517329193108106637 : UInt64)) (h2 : ¬ dge v (4607182409792818153 : UInt64)) :
    NoNaN64 (FP.dsub (4607182418800017408 : UInt64) v) ∧ NoNaN64 (FP.ddiv f (FP.dsub (4607182418800017408 : UInt64) v)) ∧ NoNaN64 (FP.dadd x (FP.ddiv f (FP.dsub (4607182418800017408 : UInt64) v))) ∧ Bn (FP.dadd x (FP.ddiv f (FP.dsub (4607182418800017408 : UInt64) v))) (K + 1) := by
  obtain ⟨n0, n1⟩ := own_in V h1 h2
  have e20 : ((2 ^ 20 : Nat) : Int) = 1048576 := by decide
  have D1 := (own_c4607182418800017408.up 20).sub V (by rw [e20]; omega) (by omega)
  rw [e20] at D1
  have B1 := (F.bn (K := 20) hm.1 (by rw [e20]; omega)).div D1.1 (D1.lo (by omega)) (by omega)
  have B2 := B.add (B1.mono (by omega : 20 + (0 + 20) ≤ K)) (by omega)
  exact ⟨D1.nn, B1.nn, B2.nn, B2⟩
theorem own_ld {v f x : UInt64} {n m : Int} {K : Nat} (V : Dy v n 20) (F : Dy f m 0) (hm : 0 ≤ m ∧ m < 1048576) (B : Bn x K) (hK : 40 ≤ K ∧ K ≤ 50) (h1 : ¬ dle v (4517329193108106637 : UInt64)) (h2 : ¬ dge v (4607182409792818153 : UInt64)) :
    NoNaN64 (FP.ddiv f v) ∧ NoNaN64 (FP.dadd x (FP.ddiv f v)) ∧ Bn (FP.dadd x (FP.ddiv f v)) (K + 1) := by
  obtain ⟨n0, n1⟩ := own_in V h1 h2
  have e20 : ((2 ^ 20 : Nat) : Int) = 1048576 := by decide
  have B1 := (F.bn (K := 20) hm.1 (by rw [e20]; omega)).div V.1 (V.lo (by omega)) (by omega)
  have B2 := B.add (B1.mono (by omega : 20 + 20 ≤ K)) (by omega)
  exact ⟨B1.nn, B2.nn, B2⟩
theorem own_tr {v x y : UInt64} {K : Nat} (B : Bn x K) (h : ¬ dle v (4517329193108106637 : UInt64) → ¬ dge v (4607182409792818153 : UInt64) → Bn y (K + 1)) : Bn (if dle v (4517329193108106637 : UInt64) then x else (if dge v (4607182409792818153 : UInt64) then x else y)) (K + 1) := by
  by_cases a : dle v (4517329193108106637 : UInt64)
  · rw [if_pos a]; exact B.mono (by omega)
  · rw [if_neg a]
    by_cases b : dge v (4607182409792818153 : UInt64)
    · rw [if_pos b]; exact B.mono (by omega)
    · rw [if_neg b]; exact h a b
theorem own_fq {e : UInt64} {n : Int32} {K : Nat} (B : Bn e K) (hK : K ≤ 52) (h : 0 < n) : Bn (FP.ddiv e (FP.i2d n)) K := by
  have D := dy_i2d n
  have q : 1 ≤ n.toInt := by
    rw [Int32.lt_iff_toInt_lt] at h
    have e0 : (0 : Int32).toInt = 0 := by decide
    omega
  have q2 := B.div (J := 0) D.1 (D.lo q) (by omega)
  rwa [Nat.add_zero] at q2
theorem own_fpu {e : UInt64} {n : Int32} {K : Nat} (B : Bn e K) (hK : K ≤ 52) : Bn (if 0 < n then (FP.ddiv e (FP.i2d n)) else (4607182418800017408 : UInt64)) K := by
  by_cases h : 0 < n
  · rw [if_pos h]; exact own_fq B hK h
  · rw [if_neg h]; exact own_c4607182418800017408.bn (by omega) (by have := Nat.two_pow_pos (K + 0); omega)
theorem own_pp {a : UInt64} {n : Int} (A : Dy a n 0) (h : 0 ≤ n ∧ n ≤ 65535) : Bn (FP.ddiv a (4679239875398991872 : UInt64)) 0 := by
  have C := own_c4679239875398991872
  have p := C.pos (by omega)
  refine Bn.of (by omega) (own_nn_div A.1 C.1 (own_notz C.1 p)) (own_ge0 (own_div_ge A.1 C.1 p own_z0.1.ne_nan (by rw [own_z0.2, Int.zero_mul]; exact Int.mul_nonneg (A.bn (K := 16) h.1 (by have h_ : ((2 ^ (16 + 0) : Nat) : Int) = 65536 := (by decide); omega)).2.1 (Int.le_of_lt uu_pos)))) fun V f e => ?_
  exact Dy.div_le A C (by omega) (i := 0) (r := 1) ⟨f, by rw [e, show ((2 ^ 0 : Nat) : Int) = 1 from rfl, Int.mul_one]⟩ (by show n * 1 ≤ 1 * 65535 * 1; omega)
theorem own_p1 {p : UInt64} (B : Bn p 0) : Bn (FP.dsub (4607182418800017408 : UInt64) p) 0 := by
  have b := B.2
  have o := own_c4607182418800017408.2
  rw [show ((2 ^ 0 : Nat) : Int) = 1 from rfl, Int.mul_one, Int.one_mul] at o
  rw [show ((2 ^ 0 : Nat) : Int) = 1 from rfl, Int.one_mul] at b
  refine Bn.of (by omega) (own_nn_sub own_c4607182418800017408.1 B.1) (own_ge0 (own_sub_ge own_c4607182418800017408.1 B.1 own_z0.1.ne_nan (by rw [own_z0.2]; omega))) fun V f e => own_sub_le own_c4607182418800017408.1 B.1 f.ne_nan ?_
  rw [e, show ((2 ^ 0 : Nat) : Int) = 1 from rfl, Int.one_mul]; omega

theorem ef1 (m : MethodId) (x0 : Addr) (x2 : Int64) : entryFrame m #[(.ref x0), (.int (2 : Int32)), (.long x2)] 4 = mkF m 0 #[.val (.ref x0), .val (.int (2 : Int32)), .val (.long x2), .second] [] := by first | (simp [entryFrame, mkF, argsToLocals, Value.category]; done) | rfl
def Q1 (Z : State) (o0 : Addr) (p2 : Int64) (count_o0 : Int32) (least_o0 : Int64) (u_downFalls_o0 : Value) (u_downCounts_o0 : Value) (u_upFalls_o0 : Value) (u_upCounts_o0 : Value) (u_branchable_o0 : Value) (h0 : Heap) (n0 : Nat) (v : Option Value) (h : Heap) (L : List Loc) : Prop := ∃ b4 b6 b8 b10 : Addr, v = none ∧ Fr n0 L ∧ Keep h0 h [o0] ∧ h0.size ≤ b4 ∧ h0.size ≤ b6 ∧ h0.size ≤ b8 ∧ h0.size ≤ b10 ∧ b4 ≠ b6 ∧ b4 ≠ b8 ∧ b4 ≠ b10 ∧ b6 ≠ b8 ∧ b6 ≠ b10 ∧ b8 ≠ b10 ∧ Exa Z h o0 "com/example/bidfold/bidfold/Branching" ∧ Fld Z h o0 "com/example/bidfold/bidfold/Branching" "downFalls" "[D" (.ref b4) ∧ Fld Z h o0 "com/example/bidfold/bidfold/Branching" "downCounts" "[I" (.ref b6) ∧ Fld Z h o0 "com/example/bidfold/bidfold/Branching" "upFalls" "[D" (.ref b8) ∧ Fld Z h o0 "com/example/bidfold/bidfold/Branching" "upCounts" "[I" (.ref b10) ∧ Exa Z h b4 "[D" ∧ Ary tr Z h b4 .double [(.double (0 : UInt64)), (.double (0 : UInt64))] ∧ Exa Z h b6 "[I" ∧ Ary tr Z h b6 .int [(.int (0 : Int32)), (.int (0 : Int32))] ∧ Exa Z h b8 "[D" ∧ Ary tr Z h b8 .double [(.double (0 : UInt64)), (.double (0 : UInt64))] ∧ Exa Z h b10 "[I" ∧ Ary tr Z h b10 .int [(.int (0 : Int32)), (.int (0 : Int32))]
set_option maxRecDepth 65536 in
set_option maxHeartbeats 40000000 in
theorem rm1 (l : Launch) (Z : State) (a0 : Array Value) (hw : ∀ d ∈ tables_1, d.before a0 Z = true) (ws : List Jvm.Cond) (o0 : Addr) (p2 : Int64) (count_o0 : Int32) (least_o0 : Int64) (u_downFalls_o0 : Value) (u_downCounts_o0 : Value) (u_upFalls_o0 : Value) (u_upCounts_o0 : Value) (u_branchable_o0 : Value) (h0 : Heap) (n0 : Nat) (Z0 : n0 ≤ h0.size) (F_o0_count : Fld Z h0 o0 "com/example/bidfold/bidfold/Branching" "count" "I" (.int count_o0)) (F_o0_least : Fld Z h0 o0 "com/example/bidfold/bidfold/Branching" "least" "J" (.long least_o0)) (F_o0_downFalls : Fld Z h0 o0 "com/example/bidfold/bidfold/Branching" "downFalls" "[D" u_downFalls_o0) (F_o0_downCounts : Fld Z h0 o0 "com/example/bidfold/bidfold/Branching" "downCounts" "[I" u_downCounts_o0) (F_o0_upFalls : Fld Z h0 o0 "com/example/bidfold/bidfold/Branching" "upFalls" "[D" u_upFalls_o0) (F_o0_upCounts : Fld Z h0 o0 "com/example/bidfold/bidfold/Branching" "upCounts" "[I" u_upCounts_o0) (F_o0_branchable : Fld Z h0 o0 "com/example/bidfold/bidfold/Branching" "branchable" "[I" u_branchable_o0) (E_o0 : Exa Z h0 o0 "com/example/bidfold/bidfold/Branching") (g_o0 : n0 ≤ o0) :
    MetFree l (⟨"com/example/bidfold/bidfold/Branching", "<init>", "(IJ)V"⟩ : MethodName) (head1 (Jvm.Cond.code (⟨"com/example/bidfold/bidfold/Branching", "<init>", "(IJ)V"⟩ : MethodName) prog_13_method_1_code 4 none :: ws) ({ frames := 1, cells := 5, slots := 10, locals := 12 } : Room)) (fun a U => a = #[(.ref o0), (.int (2 : Int32)), (.long p2)] ∧ Z.Warmed39 U.vm ∧ U.heap = h0) (fun _ _ _ _ _ => True) (fun _ U o U' => ∃ v L, o = .returned v ∧ Q1 Z o0 p2 count_o0 least_o0 u_downFalls_o0 u_downCounts_o0 u_upFalls_o0 u_upCounts_o0 u_branchable_o0 h0 n0 v U'.heap L ∧ FrameEnd U o U' L ({ frames := 1, cells := 5, slots := 10, locals := 12 } : Room).cells ({ frames := 1, cells := 5, slots := 10, locals := 12 } : Room).slots) := by
  refine MetFree.of_bodySF (plainFor_of_name pn_com_example_bidfold_bidfold_Branching) hisR ?_
  intro p e s m args below meth c s₁ Bd hml0 hP hK
  obtain ⟨rfl, hZ, hh⟩ := hP
  have hx := Bd.exec
  have hby := Bd.bytes
  have hml : c.maxLocals = 4 := hml0
  have hown : s.vm.findClass "com/example/bidfold/bidfold/Branching" = some m.cls := findClass_of_methodNamed Bd.named
  have hnm := (name_of_methodNamed Bd.named Bd.method).1
  have X0 : Stand p l e ({ frames := 1, cells := 5, slots := 10, locals := 12 } : Room) s m #[(.ref o0), (.int (2 : Int32)), (.long p2)] below meth c s₁ [] 0 0 := Stand.of_body Bd
  have eH0 : s₁.heap = h0 := by rw [← hh, Bd.state]; rfl
  have N0 := Fr.nil n0
  have K0 := Keep.refl h0 [o0]
  show Gt p.tables e below (fun o U' => ∃ v L, o = .returned v ∧ Q1 Z o0 p2 count_o0 least_o0 u_downFalls_o0 u_downCounts_o0 u_upFalls_o0 u_upCounts_o0 u_branchable_o0 h0 n0 v U'.heap L ∧ FrameEnd s o U' L ({ frames := 1, cells := 5, slots := 10, locals := 12 } : Room).cells ({ frames := 1, cells := 5, slots := 10, locals := 12 } : Room).slots) _
  refine own_cast (ef1 m o0 p2) ?_
  refine own_aloadN X0 hx hby rfl rfl d1_0 (pc' := 1) rfl ?_
  refine own_initO X0 hx hby hZ hown (hw _ (List.mem_of_getElem? (i := 14) rfl)) (hw _ (List.mem_of_getElem? (i := 15) rfl)) (hw _ (List.mem_of_getElem? (i := 16) rfl)) eH0 (by rw [hml]; rfl) d1_1 (pc' := 4) rfl (by decide) (W := 0) (Nat.le_of_eq rfl) (by decide) (fun T1 X1 eH1 => ?_)
  refine own_aloadN X1 hx hby rfl rfl d1_4 (pc' := 5) rfl ?_
  refine own_iloadN X1 hx hby rfl d1_5 (pc' := 6) rfl ?_
  refine own_putF X1 hx hby hZ hown (host := "") (Or.inl (hw _ (List.mem_of_getElem? (i := 17) rfl))) Via.refl eH1 F_o0_count E_o0 (Or.inr ⟨(hw _ (List.mem_of_getElem? (i := 18) rfl)), rfl, hnm⟩) (hw _ (List.mem_of_getElem? (i := 9) rfl)) (ty := .int) (by decide) rfl rfl d1_6 (pc' := 9) rfl (fun T2 h2 X2 eH2 W2 => ?_)
  replace E_o0 := E_o0.wr W2
  replace F_o0_count := F_o0_count.same W2
  replace F_o0_least := F_o0_least.other W2 (Or.inr (slot_ne (Or.inr (hw _ (List.mem_of_getElem? (i := 20) rfl))) (Or.inr (hw _ (List.mem_of_getElem? (i := 18) rfl))) (by decide) (t := .long) (t' := .int) (by decide) (by decide)))
  replace F_o0_downFalls := F_o0_downFalls.other W2 (Or.inr (slot_ne (Or.inr (hw _ (List.mem_of_getElem? (i := 22) rfl))) (Or.inr (hw _ (List.mem_of_getElem? (i := 18) rfl))) (by decide) (t := (.array .double)) (t' := .int) (by decide) (by decide)))
  replace F_o0_downCounts := F_o0_downCounts.other W2 (Or.inr (slot_ne (Or.inr (hw _ (List.mem_of_getElem? (i := 24) rfl))) (Or.inr (hw _ (List.mem_of_getElem? (i := 18) rfl))) (by decide) (t := (.array .int)) (t' := .int) (by decide) (by decide)))
  replace F_o0_upFalls := F_o0_upFalls.other W2 (Or.inr (slot_ne (Or.inr (hw _ (List.mem_of_getElem? (i := 26) rfl))) (Or.inr (hw _ (List.mem_of_getElem? (i := 18) rfl))) (by decide) (t := (.array .double)) (t' := .int) (by decide) (by decide)))
  replace F_o0_upCounts := F_o0_upCounts.other W2 (Or.inr (slot_ne (Or.inr (hw _ (List.mem_of_getElem? (i := 28) rfl))) (Or.inr (hw _ (List.mem_of_getElem? (i := 18) rfl))) (by decide) (t := (.array .int)) (t' := .int) (by decide) (by decide)))
  replace F_o0_branchable := F_o0_branchable.other W2 (Or.inr (slot_ne (Or.inr (hw _ (List.mem_of_getElem? (i := 30) rfl))) (Or.inr (hw _ (List.mem_of_getElem? (i := 18) rfl))) (by decide) (t := (.array .int)) (t' := .int) (by decide) (by decide)))
  have N2 := Fr.snoc X2 N0 g_o0
  replace K0 := K0.wr W2 (Or.inl (by simp))
  replace Z0 := Nat.le_trans Z0 (Nat.le_of_eq W2.size.symm)
  refine own_aloadN X2 hx hby rfl rfl d1_9 (pc' := 10) rfl ?_
  refine own_lloadN X2 hx hby rfl d1_10 (pc' := 11) rfl ?_
  refine own_putF X2 hx hby hZ hown (host := "") (Or.inl (hw _ (List.mem_of_getElem? (i := 19) rfl))) Via.refl eH2 F_o0_least E_o0 (Or.inr ⟨(hw _ (List.mem_of_getElem? (i := 20) rfl)), rfl, hnm⟩) (hw _ (List.mem_of_getElem? (i := 9) rfl)) (ty := .long) (by decide) rfl rfl d1_11 (pc' := 14) rfl (fun T3 h3 X3 eH3 W3 => ?_)
  replace E_o0 := E_o0.wr W3
  replace F_o0_count := F_o0_count.other W3 (Or.inr (slot_ne (Or.inr (hw _ (List.mem_of_getElem? (i := 18) rfl))) (Or.inr (hw _ (List.mem_of_getElem? (i := 20) rfl))) (by decide) (t := .int) (t' := .long) (by decide) (by decide)))
  replace F_o0_least := F_o0_least.same W3
  replace F_o0_downFalls := F_o0_downFalls.other W3 (Or.inr (slot_ne (Or.inr (hw _ (List.mem_of_getElem? (i := 22) rfl))) (Or.inr (hw _ (List.mem_of_getElem? (i := 20) rfl))) (by decide) (t := (.array .double)) (t' := .long) (by decide) (by decide)))
  replace F_o0_downCounts := F_o0_downCounts.other W3 (Or.inr (slot_ne (Or.inr (hw _ (List.mem_of_getElem? (i := 24) rfl))) (Or.inr (hw _ (List.mem_of_getElem? (i := 20) rfl))) (by decide) (t := (.array .int)) (t' := .long) (by decide) (by decide)))
  replace F_o0_upFalls := F_o0_upFalls.other W3 (Or.inr (slot_ne (Or.inr (hw _ (List.mem_of_getElem? (i := 26) rfl))) (Or.inr (hw _ (List.mem_of_getElem? (i := 20) rfl))) (by decide) (t := (.array .double)) (t' := .long) (by decide) (by decide)))
  replace F_o0_upCounts := F_o0_upCounts.other W3 (Or.inr (slot_ne (Or.inr (hw _ (List.mem_of_getElem? (i := 28) rfl))) (Or.inr (hw _ (List.mem_of_getElem? (i := 20) rfl))) (by decide) (t := (.array .int)) (t' := .long) (by decide) (by decide)))
  replace F_o0_branchable := F_o0_branchable.other W3 (Or.inr (slot_ne (Or.inr (hw _ (List.mem_of_getElem? (i := 30) rfl))) (Or.inr (hw _ (List.mem_of_getElem? (i := 20) rfl))) (by decide) (t := (.array .int)) (t' := .long) (by decide) (by decide)))
  have N3 := Fr.snoc X3 N2 g_o0
  replace K0 := K0.wr W3 (Or.inl (by simp))
  replace Z0 := Nat.le_trans Z0 (Nat.le_of_eq W3.size.symm)
  refine own_aloadN X3 hx hby rfl rfl d1_14 (pc' := 15) rfl ?_
  refine own_iloadN X3 hx hby rfl d1_15 (pc' := 16) rfl ?_
  refine own_newP X3 hx hby hZ (hw _ (List.mem_of_getElem? (i := 6) rfl)) eH3 d1_16 (pc' := 18) rfl (by decide) (N := 2) (by decide) (cap := 2) (by decide) (by decide) (by decide) (by decide) (ad := "[D") (by decide) (fun T4 h4 b4 X4 eH4 E4 g4 E_b4 V_b4 => ?_)
  have g_b4 : n0 ≤ b4 := g4 ▸ Z0
  have sz_b4 : h0.size ≤ b4 := g4 ▸ K0.1
  have ne_o0_b4 : o0 ≠ b4 := Nat.ne_of_lt (g4 ▸ E_o0.lt)
  replace E_o0 := E_o0.ext E4
  replace F_o0_count := F_o0_count.ext E4
  replace F_o0_least := F_o0_least.ext E4
  replace F_o0_downFalls := F_o0_downFalls.ext E4
  replace F_o0_downCounts := F_o0_downCounts.ext E4
  replace F_o0_upFalls := F_o0_upFalls.ext E4
  replace F_o0_upCounts := F_o0_upCounts.ext E4
  replace F_o0_branchable := F_o0_branchable.ext E4
  replace K0 := K0.ext E4
  replace Z0 := Nat.le_trans Z0 E4.1
  have V_b4 : Ary tr Z h4 b4 .double [(.double (0 : UInt64)), (.double (0 : UInt64))] := V_b4
  refine own_putF X4 hx hby hZ hown (host := "") (Or.inl (hw _ (List.mem_of_getElem? (i := 21) rfl))) Via.refl eH4 F_o0_downFalls E_o0 (Or.inr ⟨(hw _ (List.mem_of_getElem? (i := 22) rfl)), rfl, hnm⟩) (hw _ (List.mem_of_getElem? (i := 9) rfl)) (ty := (.array .double)) (by decide) rfl rfl d1_18 (pc' := 21) rfl (fun T5 h5 X5 eH5 W5 => ?_)
  replace E_o0 := E_o0.wr W5
  replace F_o0_count := F_o0_count.other W5 (Or.inr (slot_ne (Or.inr (hw _ (List.mem_of_getElem? (i := 18) rfl))) (Or.inr (hw _ (List.mem_of_getElem? (i := 22) rfl))) (by decide) (t := .int) (t' := (.array .double)) (by decide) (by decide)))
  replace F_o0_least := F_o0_least.other W5 (Or.inr (slot_ne (Or.inr (hw _ (List.mem_of_getElem? (i := 20) rfl))) (Or.inr (hw _ (List.mem_of_getElem? (i := 22) rfl))) (by decide) (t := .long) (t' := (.array .double)) (by decide) (by decide)))
  replace F_o0_downFalls := F_o0_downFalls.same W5
  replace F_o0_downCounts := F_o0_downCounts.other W5 (Or.inr (slot_ne (Or.inr (hw _ (List.mem_of_getElem? (i := 24) rfl))) (Or.inr (hw _ (List.mem_of_getElem? (i := 22) rfl))) (by decide) (t := (.array .int)) (t' := (.array .double)) (by decide) (by decide)))
  replace F_o0_upFalls := F_o0_upFalls.other W5 (Or.inr (slot_ne (Or.inr (hw _ (List.mem_of_getElem? (i := 26) rfl))) (Or.inr (hw _ (List.mem_of_getElem? (i := 22) rfl))) (by decide) (t := (.array .double)) (t' := (.array .double)) (by decide) (by decide)))
  replace F_o0_upCounts := F_o0_upCounts.other W5 (Or.inr (slot_ne (Or.inr (hw _ (List.mem_of_getElem? (i := 28) rfl))) (Or.inr (hw _ (List.mem_of_getElem? (i := 22) rfl))) (by decide) (t := (.array .int)) (t' := (.array .double)) (by decide) (by decide)))
  replace F_o0_branchable := F_o0_branchable.other W5 (Or.inr (slot_ne (Or.inr (hw _ (List.mem_of_getElem? (i := 30) rfl))) (Or.inr (hw _ (List.mem_of_getElem? (i := 22) rfl))) (by decide) (t := (.array .int)) (t' := (.array .double)) (by decide) (by decide)))
  replace E_b4 := E_b4.wr W5
  replace V_b4 := V_b4.other W5 (Ne.symm ne_o0_b4)
  have N5 := Fr.snoc X5 N3 g_o0
  replace K0 := K0.wr W5 (Or.inl (by simp))
  replace Z0 := Nat.le_trans Z0 (Nat.le_of_eq W5.size.symm)
  refine own_aloadN X5 hx hby rfl rfl d1_21 (pc' := 22) rfl ?_
  refine own_iloadN X5 hx hby rfl d1_22 (pc' := 23) rfl ?_
  refine own_newP X5 hx hby hZ (hw _ (List.mem_of_getElem? (i := 7) rfl)) eH5 d1_23 (pc' := 25) rfl (by decide) (N := 2) (by decide) (cap := 2) (by decide) (by decide) (by decide) (by decide) (ad := "[I") (by decide) (fun T6 h6 b6 X6 eH6 E6 g6 E_b6 V_b6 => ?_)
  have g_b6 : n0 ≤ b6 := g6 ▸ Z0
  have sz_b6 : h0.size ≤ b6 := g6 ▸ K0.1
  have ne_o0_b6 : o0 ≠ b6 := Nat.ne_of_lt (g6 ▸ E_o0.lt)
  have ne_b4_b6 : b4 ≠ b6 := Nat.ne_of_lt (g6 ▸ E_b4.lt)
  replace E_o0 := E_o0.ext E6
  replace F_o0_count := F_o0_count.ext E6
  replace F_o0_least := F_o0_least.ext E6
  replace F_o0_downFalls := F_o0_downFalls.ext E6
  replace F_o0_downCounts := F_o0_downCounts.ext E6
  replace F_o0_upFalls := F_o0_upFalls.ext E6
  replace F_o0_upCounts := F_o0_upCounts.ext E6
  replace F_o0_branchable := F_o0_branchable.ext E6
  replace E_b4 := E_b4.ext E6
  replace V_b4 := V_b4.ext E6
  replace K0 := K0.ext E6
  replace Z0 := Nat.le_trans Z0 E6.1
  have V_b6 : Ary tr Z h6 b6 .int [(.int (0 : Int32)), (.int (0 : Int32))] := V_b6
  refine own_putF X6 hx hby hZ hown (host := "") (Or.inl (hw _ (List.mem_of_getElem? (i := 23) rfl))) Via.refl eH6 F_o0_downCounts E_o0 (Or.inr ⟨(hw _ (List.mem_of_getElem? (i := 24) rfl)), rfl, hnm⟩) (hw _ (List.mem_of_getElem? (i := 9) rfl)) (ty := (.array .int)) (by decide) rfl rfl d1_25 (pc' := 28) rfl (fun T7 h7 X7 eH7 W7 => ?_)
  replace E_o0 := E_o0.wr W7
  replace F_o0_count := F_o0_count.other W7 (Or.inr (slot_ne (Or.inr (hw _ (List.mem_of_getElem? (i := 18) rfl))) (Or.inr (hw _ (List.mem_of_getElem? (i := 24) rfl))) (by decide) (t := .int) (t' := (.array .int)) (by decide) (by decide)))
  replace F_o0_least := F_o0_least.other W7 (Or.inr (slot_ne (Or.inr (hw _ (List.mem_of_getElem? (i := 20) rfl))) (Or.inr (hw _ (List.mem_of_getElem? (i := 24) rfl))) (by decide) (t := .long) (t' := (.array .int)) (by decide) (by decide)))
  replace F_o0_downFalls := F_o0_downFalls.other W7 (Or.inr (slot_ne (Or.inr (hw _ (List.mem_of_getElem? (i := 22) rfl))) (Or.inr (hw _ (List.mem_of_getElem? (i := 24) rfl))) (by decide) (t := (.array .double)) (t' := (.array .int)) (by decide) (by decide)))
  replace F_o0_downCounts := F_o0_downCounts.same W7
  replace F_o0_upFalls := F_o0_upFalls.other W7 (Or.inr (slot_ne (Or.inr (hw _ (List.mem_of_getElem? (i := 26) rfl))) (Or.inr (hw _ (List.mem_of_getElem? (i := 24) rfl))) (by decide) (t := (.array .double)) (t' := (.array .int)) (by decide) (by decide)))
  replace F_o0_upCounts := F_o0_upCounts.other W7 (Or.inr (slot_ne (Or.inr (hw _ (List.mem_of_getElem? (i := 28) rfl))) (Or.inr (hw _ (List.mem_of_getElem? (i := 24) rfl))) (by decide) (t := (.array .int)) (t' := (.array .int)) (by decide) (by decide)))
  replace F_o0_branchable := F_o0_branchable.other W7 (Or.inr (slot_ne (Or.inr (hw _ (List.mem_of_getElem? (i := 30) rfl))) (Or.inr (hw _ (List.mem_of_getElem? (i := 24) rfl))) (by decide) (t := (.array .int)) (t' := (.array .int)) (by decide) (by decide)))
  replace E_b4 := E_b4.wr W7
  replace V_b4 := V_b4.other W7 (Ne.symm ne_o0_b4)
  replace E_b6 := E_b6.wr W7
  replace V_b6 := V_b6.other W7 (Ne.symm ne_o0_b6)
  have N7 := Fr.snoc X7 N5 g_o0
  replace K0 := K0.wr W7 (Or.inl (by simp))
  replace Z0 := Nat.le_trans Z0 (Nat.le_of_eq W7.size.symm)
  refine own_aloadN X7 hx hby rfl rfl d1_28 (pc' := 29) rfl ?_
  refine own_iloadN X7 hx hby rfl d1_29 (pc' := 30) rfl ?_
  refine own_newP X7 hx hby hZ (hw _ (List.mem_of_getElem? (i := 6) rfl)) eH7 d1_30 (pc' := 32) rfl (by decide) (N := 2) (by decide) (cap := 2) (by decide) (by decide) (by decide) (by decide) (ad := "[D") (by decide) (fun T8 h8 b8 X8 eH8 E8 g8 E_b8 V_b8 => ?_)
  have g_b8 : n0 ≤ b8 := g8 ▸ Z0
  have sz_b8 : h0.size ≤ b8 := g8 ▸ K0.1
  have ne_o0_b8 : o0 ≠ b8 := Nat.ne_of_lt (g8 ▸ E_o0.lt)
  have ne_b4_b8 : b4 ≠ b8 := Nat.ne_of_lt (g8 ▸ E_b4.lt)
  have ne_b6_b8 : b6 ≠ b8 := Nat.ne_of_lt (g8 ▸ E_b6.lt)
  replace E_o0 := E_o0.ext E8
  replace F_o0_count := F_o0_count.ext E8
  replace F_o0_least := F_o0_least.ext E8
  replace F_o0_downFalls := F_o0_downFalls.ext E8
  replace F_o0_downCounts := F_o0_downCounts.ext E8
  replace F_o0_upFalls := F_o0_upFalls.ext E8
  replace F_o0_upCounts := F_o0_upCounts.ext E8
  replace F_o0_branchable := F_o0_branchable.ext E8
  replace E_b4 := E_b4.ext E8
  replace V_b4 := V_b4.ext E8
  replace E_b6 := E_b6.ext E8
  replace V_b6 := V_b6.ext E8
  replace K0 := K0.ext E8
  replace Z0 := Nat.le_trans Z0 E8.1
  have V_b8 : Ary tr Z h8 b8 .double [(.double (0 : UInt64)), (.double (0 : UInt64))] := V_b8
  refine own_putF X8 hx hby hZ hown (host := "") (Or.inl (hw _ (List.mem_of_getElem? (i := 25) rfl))) Via.refl eH8 F_o0_upFalls E_o0 (Or.inr ⟨(hw _ (List.mem_of_getElem? (i := 26) rfl)), rfl, hnm⟩) (hw _ (List.mem_of_getElem? (i := 9) rfl)) (ty := (.array .double)) (by decide) rfl rfl d1_32 (pc' := 35) rfl (fun T9 h9 X9 eH9 W9 => ?_)
  replace E_o0 := E_o0.wr W9
  replace F_o0_count := F_o0_count.other W9 (Or.inr (slot_ne (Or.inr (hw _ (List.mem_of_getElem? (i := 18) rfl))) (Or.inr (hw _ (List.mem_of_getElem? (i := 26) rfl))) (by decide) (t := .int) (t' := (.array .double)) (by decide) (by decide)))
  replace F_o0_least := F_o0_least.other W9 (Or.inr (slot_ne (Or.inr (hw _ (List.mem_of_getElem? (i := 20) rfl))) (Or.inr (hw _ (List.mem_of_getElem? (i := 26) rfl))) (by decide) (t := .long) (t' := (.array .double)) (by decide) (by decide)))
  replace F_o0_downFalls := F_o0_downFalls.other W9 (Or.inr (slot_ne (Or.inr (hw _ (List.mem_of_getElem? (i := 22) rfl))) (Or.inr (hw _ (List.mem_of_getElem? (i := 26) rfl))) (by decide) (t := (.array .double)) (t' := (.array .double)) (by decide) (by decide)))
  replace F_o0_downCounts := F_o0_downCounts.other W9 (Or.inr (slot_ne (Or.inr (hw _ (List.mem_of_getElem? (i := 24) rfl))) (Or.inr (hw _ (List.mem_of_getElem? (i := 26) rfl))) (by decide) (t := (.array .int)) (t' := (.array .double)) (by decide) (by decide)))
  replace F_o0_upFalls := F_o0_upFalls.same W9
  replace F_o0_upCounts := F_o0_upCounts.other W9 (Or.inr (slot_ne (Or.inr (hw _ (List.mem_of_getElem? (i := 28) rfl))) (Or.inr (hw _ (List.mem_of_getElem? (i := 26) rfl))) (by decide) (t := (.array .int)) (t' := (.array .double)) (by decide) (by decide)))
  replace F_o0_branchable := F_o0_branchable.other W9 (Or.inr (slot_ne (Or.inr (hw _ (List.mem_of_getElem? (i := 30) rfl))) (Or.inr (hw _ (List.mem_of_getElem? (i := 26) rfl))) (by decide) (t := (.array .int)) (t' := (.array .double)) (by decide) (by decide)))
  replace E_b4 := E_b4.wr W9
  replace V_b4 := V_b4.other W9 (Ne.symm ne_o0_b4)
  replace E_b6 := E_b6.wr W9
  replace V_b6 := V_b6.other W9 (Ne.symm ne_o0_b6)
  replace E_b8 := E_b8.wr W9
  replace V_b8 := V_b8.other W9 (Ne.symm ne_o0_b8)
  have N9 := Fr.snoc X9 N7 g_o0
  replace K0 := K0.wr W9 (Or.inl (by simp))
  replace Z0 := Nat.le_trans Z0 (Nat.le_of_eq W9.size.symm)
  refine own_aloadN X9 hx hby rfl rfl d1_35 (pc' := 36) rfl ?_
  refine own_iloadN X9 hx hby rfl d1_36 (pc' := 37) rfl ?_
  refine own_newP X9 hx hby hZ (hw _ (List.mem_of_getElem? (i := 7) rfl)) eH9 d1_37 (pc' := 39) rfl (by decide) (N := 2) (by decide) (cap := 2) (by decide) (by decide) (by decide) (by decide) (ad := "[I") (by decide) (fun T10 h10 b10 X10 eH10 E10 g10 E_b10 V_b10 => ?_)
  have g_b10 : n0 ≤ b10 := g10 ▸ Z0
  have sz_b10 : h0.size ≤ b10 := g10 ▸ K0.1
  have ne_o0_b10 : o0 ≠ b10 := Nat.ne_of_lt (g10 ▸ E_o0.lt)
  have ne_b4_b10 : b4 ≠ b10 := Nat.ne_of_lt (g10 ▸ E_b4.lt)
  have ne_b6_b10 : b6 ≠ b10 := Nat.ne_of_lt (g10 ▸ E_b6.lt)
  have ne_b8_b10 : b8 ≠ b10 := Nat.ne_of_lt (g10 ▸ E_b8.lt)
  replace E_o0 := E_o0.ext E10
  replace F_o0_count := F_o0_count.ext E10
  replace F_o0_least := F_o0_least.ext E10
  replace F_o0_downFalls := F_o0_downFalls.ext E10
  replace F_o0_downCounts := F_o0_downCounts.ext E10
  replace F_o0_upFalls := F_o0_upFalls.ext E10
  replace F_o0_upCounts := F_o0_upCounts.ext E10
  replace F_o0_branchable := F_o0_branchable.ext E10
  replace E_b4 := E_b4.ext E10
  replace V_b4 := V_b4.ext E10
  replace E_b6 := E_b6.ext E10
  replace V_b6 := V_b6.ext E10
  replace E_b8 := E_b8.ext E10
  replace V_b8 := V_b8.ext E10
  replace K0 := K0.ext E10
  replace Z0 := Nat.le_trans Z0 E10.1
  have V_b10 : Ary tr Z h10 b10 .int [(.int (0 : Int32)), (.int (0 : Int32))] := V_b10
  refine own_putF X10 hx hby hZ hown (host := "") (Or.inl (hw _ (List.mem_of_getElem? (i := 27) rfl))) Via.refl eH10 F_o0_upCounts E_o0 (Or.inr ⟨(hw _ (List.mem_of_getElem? (i := 28) rfl)), rfl, hnm⟩) (hw _ (List.mem_of_getElem? (i := 9) rfl)) (ty := (.array .int)) (by decide) rfl rfl d1_39 (pc' := 42) rfl (fun T11 h11 X11 eH11 W11 => ?_)
  replace E_o0 := E_o0.wr W11
  replace F_o0_count := F_o0_count.other W11 (Or.inr (slot_ne (Or.inr (hw _ (List.mem_of_getElem? (i := 18) rfl))) (Or.inr (hw _ (List.mem_of_getElem? (i := 28) rfl))) (by decide) (t := .int) (t' := (.array .int)) (by decide) (by decide)))
  replace F_o0_least := F_o0_least.other W11 (Or.inr (slot_ne (Or.inr (hw _ (List.mem_of_getElem? (i := 20) rfl))) (Or.inr (hw _ (List.mem_of_getElem? (i := 28) rfl))) (by decide) (t := .long) (t' := (.array .int)) (by decide) (by decide)))
  replace F_o0_downFalls := F_o0_downFalls.other W11 (Or.inr (slot_ne (Or.inr (hw _ (List.mem_of_getElem? (i := 22) rfl))) (Or.inr (hw _ (List.mem_of_getElem? (i := 28) rfl))) (by decide) (t := (.array .double)) (t' := (.array .int)) (by decide) (by decide)))
  replace F_o0_downCounts := F_o0_downCounts.other W11 (Or.inr (slot_ne (Or.inr (hw _ (List.mem_of_getElem? (i := 24) rfl))) (Or.inr (hw _ (List.mem_of_getElem? (i := 28) rfl))) (by decide) (t := (.array .int)) (t' := (.array .int)) (by decide) (by decide)))
  replace F_o0_upFalls := F_o0_upFalls.other W11 (Or.inr (slot_ne (Or.inr (hw _ (List.mem_of_getElem? (i := 26) rfl))) (Or.inr (hw _ (List.mem_of_getElem? (i := 28) rfl))) (by decide) (t := (.array .double)) (t' := (.array .int)) (by decide) (by decide)))
  replace F_o0_upCounts := F_o0_upCounts.same W11
  replace F_o0_branchable := F_o0_branchable.other W11 (Or.inr (slot_ne (Or.inr (hw _ (List.mem_of_getElem? (i := 30) rfl))) (Or.inr (hw _ (List.mem_of_getElem? (i := 28) rfl))) (by decide) (t := (.array .int)) (t' := (.array .int)) (by decide) (by decide)))
  replace E_b4 := E_b4.wr W11
  replace V_b4 := V_b4.other W11 (Ne.symm ne_o0_b4)
  replace E_b6 := E_b6.wr W11
  replace V_b6 := V_b6.other W11 (Ne.symm ne_o0_b6)
  replace E_b8 := E_b8.wr W11
  replace V_b8 := V_b8.other W11 (Ne.symm ne_o0_b8)
  replace E_b10 := E_b10.wr W11
  replace V_b10 := V_b10.other W11 (Ne.symm ne_o0_b10)
  have N11 := Fr.snoc X11 N9 g_o0
  replace K0 := K0.wr W11 (Or.inl (by simp))
  replace Z0 := Nat.le_trans Z0 (Nat.le_of_eq W11.size.symm)
  refine own_aloadN X11 hx hby rfl rfl d1_42 (pc' := 43) rfl ?_
  refine own_iloadN X11 hx hby rfl d1_43 (pc' := 44) rfl ?_
  refine own_newP X11 hx hby hZ (hw _ (List.mem_of_getElem? (i := 7) rfl)) eH11 d1_44 (pc' := 46) rfl (by decide) (N := 2) (by decide) (cap := 2) (by decide) (by decide) (by decide) (by decide) (ad := "[I") (by decide) (fun T12 h12 b12 X12 eH12 E12 g12 E_b12 V_b12 => ?_)
  have g_b12 : n0 ≤ b12 := g12 ▸ Z0
  have sz_b12 : h0.size ≤ b12 := g12 ▸ K0.1
  have ne_o0_b12 : o0 ≠ b12 := Nat.ne_of_lt (g12 ▸ E_o0.lt)
  have ne_b4_b12 : b4 ≠ b12 := Nat.ne_of_lt (g12 ▸ E_b4.lt)
  have ne_b6_b12 : b6 ≠ b12 := Nat.ne_of_lt (g12 ▸ E_b6.lt)
  have ne_b8_b12 : b8 ≠ b12 := Nat.ne_of_lt (g12 ▸ E_b8.lt)
  have ne_b10_b12 : b10 ≠ b12 := Nat.ne_of_lt (g12 ▸ E_b10.lt)
  replace E_o0 := E_o0.ext E12
  replace F_o0_count := F_o0_count.ext E12
  replace F_o0_least := F_o0_least.ext E12
  replace F_o0_downFalls := F_o0_downFalls.ext E12
  replace F_o0_downCounts := F_o0_downCounts.ext E12
  replace F_o0_upFalls := F_o0_upFalls.ext E12
  replace F_o0_upCounts := F_o0_upCounts.ext E12
  replace F_o0_branchable := F_o0_branchable.ext E12
  replace E_b4 := E_b4.ext E12
  replace V_b4 := V_b4.ext E12
  replace E_b6 := E_b6.ext E12
  replace V_b6 := V_b6.ext E12
  replace E_b8 := E_b8.ext E12
  replace V_b8 := V_b8.ext E12
  replace E_b10 := E_b10.ext E12
  replace V_b10 := V_b10.ext E12
  replace K0 := K0.ext E12
  replace Z0 := Nat.le_trans Z0 E12.1
  have V_b12 : Ary tr Z h12 b12 .int [(.int (0 : Int32)), (.int (0 : Int32))] := V_b12
  refine own_putF X12 hx hby hZ hown (host := "") (Or.inl (hw _ (List.mem_of_getElem? (i := 29) rfl))) Via.refl eH12 F_o0_branchable E_o0 (Or.inr ⟨(hw _ (List.mem_of_getElem? (i := 30) rfl)), rfl, hnm⟩) (hw _ (List.mem_of_getElem? (i := 9) rfl)) (ty := (.array .int)) (by decide) rfl rfl d1_46 (pc' := 49) rfl (fun T13 h13 X13 eH13 W13 => ?_)
  replace E_o0 := E_o0.wr W13
  replace F_o0_count := F_o0_count.other W13 (Or.inr (slot_ne (Or.inr (hw _ (List.mem_of_getElem? (i := 18) rfl))) (Or.inr (hw _ (List.mem_of_getElem? (i := 30) rfl))) (by decide) (t := .int) (t' := (.array .int)) (by decide) (by decide)))
  replace F_o0_least := F_o0_least.other W13 (Or.inr (slot_ne (Or.inr (hw _ (List.mem_of_getElem? (i := 20) rfl))) (Or.inr (hw _ (List.mem_of_getElem? (i := 30) rfl))) (by decide) (t := .long) (t' := (.array .int)) (by decide) (by decide)))
  replace F_o0_downFalls := F_o0_downFalls.other W13 (Or.inr (slot_ne (Or.inr (hw _ (List.mem_of_getElem? (i := 22) rfl))) (Or.inr (hw _ (List.mem_of_getElem? (i := 30) rfl))) (by decide) (t := (.array .double)) (t' := (.array .int)) (by decide) (by decide)))
  replace F_o0_downCounts := F_o0_downCounts.other W13 (Or.inr (slot_ne (Or.inr (hw _ (List.mem_of_getElem? (i := 24) rfl))) (Or.inr (hw _ (List.mem_of_getElem? (i := 30) rfl))) (by decide) (t := (.array .int)) (t' := (.array .int)) (by decide) (by decide)))
  replace F_o0_upFalls := F_o0_upFalls.other W13 (Or.inr (slot_ne (Or.inr (hw _ (List.mem_of_getElem? (i := 26) rfl))) (Or.inr (hw _ (List.mem_of_getElem? (i := 30) rfl))) (by decide) (t := (.array .double)) (t' := (.array .int)) (by decide) (by decide)))
  replace F_o0_upCounts := F_o0_upCounts.other W13 (Or.inr (slot_ne (Or.inr (hw _ (List.mem_of_getElem? (i := 28) rfl))) (Or.inr (hw _ (List.mem_of_getElem? (i := 30) rfl))) (by decide) (t := (.array .int)) (t' := (.array .int)) (by decide) (by decide)))
  replace F_o0_branchable := F_o0_branchable.same W13
  replace E_b4 := E_b4.wr W13
  replace V_b4 := V_b4.other W13 (Ne.symm ne_o0_b4)
  replace E_b6 := E_b6.wr W13
  replace V_b6 := V_b6.other W13 (Ne.symm ne_o0_b6)
  replace E_b8 := E_b8.wr W13
  replace V_b8 := V_b8.other W13 (Ne.symm ne_o0_b8)
  replace E_b10 := E_b10.wr W13
  replace V_b10 := V_b10.other W13 (Ne.symm ne_o0_b10)
  replace E_b12 := E_b12.wr W13
  replace V_b12 := V_b12.other W13 (Ne.symm ne_o0_b12)
  have N13 := Fr.snoc X13 N11 g_o0
  replace K0 := K0.wr W13 (Or.inl (by simp))
  replace Z0 := Nat.le_trans Z0 (Nat.le_of_eq W13.size.symm)
  exact own_retV X13 hx hby Bd.notSynchronized Bd.returns d1_49 (by decide) (by decide) eH13 ⟨b4, b6, b8, b10, rfl, N13, K0, sz_b4, sz_b6, sz_b8, sz_b10, ne_b4_b6, ne_b4_b8, ne_b4_b10, ne_b6_b8, ne_b6_b10, ne_b8_b10, E_o0, F_o0_downFalls, F_o0_downCounts, F_o0_upFalls, F_o0_upCounts, E_b4, V_b4, E_b6, V_b6, E_b8, V_b8, E_b10, V_b10⟩
theorem ef300 (m : MethodId) (x0 : Addr) (x3 : UInt64) (x4 : UInt64) : entryFrame m #[(.ref x0), (.int (0 : Int32)), (.int (0 : Int32)), (.double x3), (.double x4)] 7 = mkF m 0 #[.val (.ref x0), .val (.int (0 : Int32)), .val (.int (0 : Int32)), .val (.double x3), .second, .val (.double x4), .second] [] := by first | (simp [entryFrame, mkF, argsToLocals, Value.category]; done) | rfl
def Q300 (Z : State) (o0 : Addr) (f3 : UInt64) (f4 : UInt64) (downFalls_o0 : Addr) (downCounts_o0 : Addr) (df0 : UInt64) (df1 : UInt64) (dc0 : Int32) (dc1 : Int32) (h0 : Heap) (n0 : Nat) (v : Option Value) (h : Heap) (L : List Loc) : Prop := v = none ∧ Fr n0 L ∧ Keep h0 h [downFalls_o0, downCounts_o0] ∧ Ary tr Z h downFalls_o0 .double [(.double (if dle f3 (4517329193108106637 : UInt64) then df0 else (if dge f3 (4607182409792818153 : UInt64) then df0 else (FP.dadd df0 (FP.ddiv f4 f3))))), (.double df1)] ∧ Ary tr Z h downCounts_o0 .int [(.int (if dle f3 (4517329193108106637 : UInt64) then dc0 else (if dge f3 (4607182409792818153 : UInt64) then dc0 else (dc0 + (1 : Int32))))), (.int dc1)]
set_option maxRecDepth 65536 in
set_option maxHeartbeats 40000000 in
theorem rm300 (l : Launch) (Z : State) (a0 : Array Value) (hw : ∀ d ∈ tables_1, d.before a0 Z = true) (ws : List Jvm.Cond) (o0 : Addr) (f3 : UInt64) (f4 : UInt64) (downFalls_o0 : Addr) (downCounts_o0 : Addr) (df0 : UInt64) (df1 : UInt64) (dc0 : Int32) (dc1 : Int32) (h0 : Heap) (n0 : Nat) (Z0 : n0 ≤ h0.size) (F_o0_downFalls : Fld Z h0 o0 "com/example/bidfold/bidfold/Branching" "downFalls" "[D" (.ref downFalls_o0)) (F_o0_downCounts : Fld Z h0 o0 "com/example/bidfold/bidfold/Branching" "downCounts" "[I" (.ref downCounts_o0)) (V_downFalls_o0 : Ary tr Z h0 downFalls_o0 .double [(.double df0), (.double df1)]) (V_downCounts_o0 : Ary tr Z h0 downCounts_o0 .int [(.int dc0), (.int dc1)]) (hn59_1 : ((¬ (dle f3 (4517329193108106637 : UInt64))) → (¬ (dge f3 (4607182409792818153 : UInt64))) → NoNaN64 (FP.ddiv f4 f3))) (hn60_1 : ((¬ (dle f3 (4517329193108106637 : UInt64))) → (¬ (dge f3 (4607182409792818153 : UInt64))) → NoNaN64 (FP.dadd df0 (FP.ddiv f4 f3)))) (g_downFalls_o0 : n0 ≤ downFalls_o0) (ne_o0_downFalls_o0 : o0 ≠ downFalls_o0) (ne_downCounts_o0_downFalls_o0 : downCounts_o0 ≠ downFalls_o0) (g_downCounts_o0 : n0 ≤ downCounts_o0) (ne_o0_downCounts_o0 : o0 ≠ downCounts_o0) :
    MetFree l (⟨"com/example/bidfold/bidfold/Branching", "learn", "(IZDD)V"⟩ : MethodName) (head1 (Jvm.Cond.code (⟨"com/example/bidfold/bidfold/Branching", "learn", "(IZDD)V"⟩ : MethodName) prog_13_method_3_code 7 none :: ws) ({ frames := 0, cells := 0, slots := 0, locals := 0 } : Room)) (fun a U => a = #[(.ref o0), (.int (0 : Int32)), (.int (0 : Int32)), (.double f3), (.double f4)] ∧ Z.Warmed39 U.vm ∧ U.heap = h0) (fun _ _ _ _ _ => True) (fun _ U o U' => ∃ v L, o = .returned v ∧ Q300 Z o0 f3 f4 downFalls_o0 downCounts_o0 df0 df1 dc0 dc1 h0 n0 v U'.heap L ∧ FrameEnd U o U' L ({ frames := 0, cells := 0, slots := 0, locals := 0 } : Room).cells ({ frames := 0, cells := 0, slots := 0, locals := 0 } : Room).slots) := by
  refine MetFree.of_bodySF (plainFor_of_name pn_com_example_bidfold_bidfold_Branching) hisR ?_
  intro p e s m args below meth c s₁ Bd hml0 hP hK
  obtain ⟨rfl, hZ, hh⟩ := hP
  have hx := Bd.exec
  have hby := Bd.bytes
  have hml : c.maxLocals = 7 := hml0
  have hown : s.vm.findClass "com/example/bidfold/bidfold/Branching" = some m.cls := findClass_of_methodNamed Bd.named
  have hnm := (name_of_methodNamed Bd.named Bd.method).1
  have X0 : Stand p l e ({ frames := 0, cells := 0, slots := 0, locals := 0 } : Room) s m #[(.ref o0), (.int (0 : Int32)), (.int (0 : Int32)), (.double f3), (.double f4)] below meth c s₁ [] 0 0 := Stand.of_body Bd
  have eH0 : s₁.heap = h0 := by rw [← hh, Bd.state]; rfl
  have N0 := Fr.nil n0
  have K0 := Keep.refl h0 [downFalls_o0, downCounts_o0]
  show Gt p.tables e below (fun o U' => ∃ v L, o = .returned v ∧ Q300 Z o0 f3 f4 downFalls_o0 downCounts_o0 df0 df1 dc0 dc1 h0 n0 v U'.heap L ∧ FrameEnd s o U' L ({ frames := 0, cells := 0, slots := 0, locals := 0 } : Room).cells ({ frames := 0, cells := 0, slots := 0, locals := 0 } : Room).slots) _
  refine own_cast (ef300 m o0 f3 f4) ?_
  refine own_dloadN X0 hx hby rfl d3_0 (pc' := 1) rfl ?_
  refine own_ldc2D X0 hx hby hZ hown (hw _ (List.mem_of_getElem? (i := 36) rfl)) d3_1 (pc' := 4) rfl ?_
  refine own_dcmp X0 hx hby rfl d3_4 (pc' := 5) rfl ?_
  by_cases hc1 : dle f3 (4517329193108106637 : UInt64)
  · refine own_ifT X0 hx hby d3_5 (own_dg_le_p hc1) (by decide) (pc' := 16) (by decide) ?_
    exact own_retV X0 hx hby Bd.notSynchronized Bd.returns d3_16 (by decide) (by decide) eH0 ⟨rfl, N0, K0, (by simp only [if_pos hc1]; exact V_downFalls_o0), (by simp only [if_pos hc1]; exact V_downCounts_o0)⟩
  · refine own_ifF X0 hx hby d3_5 (own_dg_le_n hc1) (pc' := 8) rfl ?_
    refine own_dloadN X0 hx hby rfl d3_8 (pc' := 9) rfl ?_
    refine own_ldc2D X0 hx hby hZ hown (hw _ (List.mem_of_getElem? (i := 53) rfl)) d3_9 (pc' := 12) rfl ?_
    refine own_dcmp X0 hx hby rfl d3_12 (pc' := 13) rfl ?_
    by_cases hc2 : dge f3 (4607182409792818153 : UInt64)
    · refine own_ifF X0 hx hby d3_13 (own_dl_lt_p hc2) (pc' := 16) rfl ?_
      exact own_retV X0 hx hby Bd.notSynchronized Bd.returns d3_16 (by decide) (by decide) eH0 ⟨rfl, N0, K0, (by simp only [if_neg hc1, if_pos hc2]; exact V_downFalls_o0), (by simp only [if_neg hc1, if_pos hc2]; exact V_downCounts_o0)⟩
    · refine own_ifT X0 hx hby d3_13 (own_dl_lt_n hc2) (by decide) (pc' := 17) (by decide) ?_
      refine own_iloadN X0 hx hby rfl d3_17 (pc' := 18) rfl ?_
      refine own_ifT X0 hx hby d3_18 (by decide) (by decide) (pc' := 49) (by decide) ?_
      refine own_aloadN X0 hx hby rfl rfl d3_49 (pc' := 50) rfl ?_
      refine own_getF X0 hx hby hZ hown (host := "") (Or.inl (hw _ (List.mem_of_getElem? (i := 21) rfl))) Via.refl eH0 F_o0_downFalls d3_50 (pc' := 53) rfl (fun T3 X3 eH3 => ?_)
      refine own_iloadN X3 hx hby rfl d3_53 (pc' := 54) rfl ?_
      refine own_dup2 X3 hx hby rfl rfl d3_54 (pc' := 55) rfl ?_
      refine own_daload X3 hx hby hZ eH3 V_downFalls_o0 (by decide) (v := (.double df0)) rfl d3_55 (pc' := 56) rfl ?_
      refine own_dload X3 hx hby rfl d3_56 (pc' := 58) rfl ?_
      refine own_dloadN X3 hx hby rfl d3_58 (pc' := 59) rfl ?_
      refine own_ddiv X3 hx hby (hn59_1 hc1 hc2) rfl d3_59 (pc' := 60) rfl ?_
      refine own_dadd X3 hx hby (hn60_1 hc1 hc2) rfl d3_60 (pc' := 61) rfl ?_
      refine own_dastore X3 hx hby hZ eH3 V_downFalls_o0 (by decide) (n := 0) (by decide) (of_decide_eq_true rfl) d3_61 (pc' := 62) rfl (fun T4 h4 X4 eH4 W4 => ?_)
      replace F_o0_downFalls := F_o0_downFalls.other W4 (Or.inl ne_o0_downFalls_o0)
      replace F_o0_downCounts := F_o0_downCounts.other W4 (Or.inl ne_o0_downFalls_o0)
      replace V_downCounts_o0 := V_downCounts_o0.other W4 ne_downCounts_o0_downFalls_o0
      have N4 := Fr.snoc X4 N0 g_downFalls_o0
      replace K0 := K0.wr W4 (Or.inl (by simp))
      replace Z0 := Nat.le_trans Z0 (Nat.le_of_eq W4.size.symm)
      replace V_downFalls_o0 : Ary tr Z h4 downFalls_o0 .double [(.double (FP.dadd df0 (FP.ddiv f4 f3))), (.double df1)] := V_downFalls_o0.set W4
      refine own_aloadN X4 hx hby rfl rfl d3_62 (pc' := 63) rfl ?_
      refine own_getF X4 hx hby hZ hown (host := "") (Or.inl (hw _ (List.mem_of_getElem? (i := 23) rfl))) Via.refl eH4 F_o0_downCounts d3_63 (pc' := 66) rfl (fun T5 X5 eH5 => ?_)
      refine own_iloadN X5 hx hby rfl d3_66 (pc' := 67) rfl ?_
      refine own_dup2 X5 hx hby rfl rfl d3_67 (pc' := 68) rfl ?_
      refine own_iaload X5 hx hby hZ eH5 V_downCounts_o0 (by decide) (v := (.int dc0)) rfl d3_68 (pc' := 69) rfl ?_
      refine own_iconst X5 hx hby (v := (1 : Int32)) (by decide) d3_69 (pc' := 70) rfl ?_
      refine own_iadd X5 hx hby rfl d3_70 (pc' := 71) rfl ?_
      refine own_iastore X5 hx hby hZ eH5 V_downCounts_o0 (by decide) (n := 0) (by decide) (of_decide_eq_true rfl) d3_71 (pc' := 72) rfl (fun T6 h6 X6 eH6 W6 => ?_)
      replace F_o0_downFalls := F_o0_downFalls.other W6 (Or.inl ne_o0_downCounts_o0)
      replace F_o0_downCounts := F_o0_downCounts.other W6 (Or.inl ne_o0_downCounts_o0)
      replace V_downFalls_o0 := V_downFalls_o0.other W6 (Ne.symm ne_downCounts_o0_downFalls_o0)
      have N6 := Fr.snoc X6 N4 g_downCounts_o0
      replace K0 := K0.wr W6 (Or.inl (by simp))
      replace Z0 := Nat.le_trans Z0 (Nat.le_of_eq W6.size.symm)
      replace V_downCounts_o0 : Ary tr Z h6 downCounts_o0 .int [(.int (dc0 + (1 : Int32))), (.int dc1)] := V_downCounts_o0.set W6
      exact own_retV X6 hx hby Bd.notSynchronized Bd.returns d3_72 (by decide) (by decide) eH6 ⟨rfl, N6, K0, (by simp only [if_neg hc1, if_neg hc2]; exact V_downFalls_o0), (by simp only [if_neg hc1, if_neg hc2]; exact V_downCounts_o0)⟩
theorem ef301 (m : MethodId) (x0 : Addr) (x3 : UInt64) (x4 : UInt64) : entryFrame m #[(.ref x0), (.int (0 : Int32)), (.int (1 : Int32)), (.double x3), (.double x4)] 7 = mkF m 0 #[.val (.ref x0), .val (.int (0 : Int32)), .val (.int (1 : Int32)), .val (.double x3), .second, .val (.double x4), .second] [] := by first | (simp [entryFrame, mkF, argsToLocals, Value.category]; done) | rfl
def Q301 (Z : State) (o0 : Addr) (f3 : UInt64) (f4 : UInt64) (upFalls_o0 : Addr) (upCounts_o0 : Addr) (uf0 : UInt64) (uf1 : UInt64) (uc0 : Int32) (uc1 : Int32) (h0 : Heap) (n0 : Nat) (v : Option Value) (h : Heap) (L : List Loc) : Prop := v = none ∧ Fr n0 L ∧ Keep h0 h [upFalls_o0, upCounts_o0] ∧ Ary tr Z h upFalls_o0 .double [(.double (if dle f3 (4517329193108106637 : UInt64) then uf0 else (if dge f3 (4607182409792818153 : UInt64) then uf0 else (FP.dadd uf0 (FP.ddiv f4 (FP.dsub (4607182418800017408 : UInt64) f3)))))), (.double uf1)] ∧ Ary tr Z h upCounts_o0 .int [(.int (if dle f3 (4517329193108106637 : UInt64) then uc0 else (if dge f3 (4607182409792818153 : UInt64) then uc0 else (uc0 + (1 : Int32))))), (.int uc1)]
set_option maxRecDepth 65536 in
set_option maxHeartbeats 40000000 in
theorem rm301 (l : Launch) (Z : State) (a0 : Array Value) (hw : ∀ d ∈ tables_1, d.before a0 Z = true) (ws : List Jvm.Cond) (o0 : Addr) (f3 : UInt64) (f4 : UInt64) (upFalls_o0 : Addr) (upCounts_o0 : Addr) (uf0 : UInt64) (uf1 : UInt64) (uc0 : Int32) (uc1 : Int32) (h0 : Heap) (n0 : Nat) (Z0 : n0 ≤ h0.size) (F_o0_upFalls : Fld Z h0 o0 "com/example/bidfold/bidfold/Branching" "upFalls" "[D" (.ref upFalls_o0)) (F_o0_upCounts : Fld Z h0 o0 "com/example/bidfold/bidfold/Branching" "upCounts" "[I" (.ref upCounts_o0)) (V_upFalls_o0 : Ary tr Z h0 upFalls_o0 .double [(.double uf0), (.double uf1)]) (V_upCounts_o0 : Ary tr Z h0 upCounts_o0 .int [(.int uc0), (.int uc1)]) (hn32_1 : ((¬ (dle f3 (4517329193108106637 : UInt64))) → (¬ (dge f3 (4607182409792818153 : UInt64))) → NoNaN64 (FP.dsub (4607182418800017408 : UInt64) f3))) (hn33_1 : ((¬ (dle f3 (4517329193108106637 : UInt64))) → (¬ (dge f3 (4607182409792818153 : UInt64))) → NoNaN64 (FP.ddiv f4 (FP.dsub (4607182418800017408 : UInt64) f3)))) (hn34_1 : ((¬ (dle f3 (4517329193108106637 : UInt64))) → (¬ (dge f3 (4607182409792818153 : UInt64))) → NoNaN64 (FP.dadd uf0 (FP.ddiv f4 (FP.dsub (4607182418800017408 : UInt64) f3))))) (g_upFalls_o0 : n0 ≤ upFalls_o0) (ne_o0_upFalls_o0 : o0 ≠ upFalls_o0) (ne_upCounts_o0_upFalls_o0 : upCounts_o0 ≠ upFalls_o0) (g_upCounts_o0 : n0 ≤ upCounts_o0) (ne_o0_upCounts_o0 : o0 ≠ upCounts_o0) :
    MetFree l (⟨"com/example/bidfold/bidfold/Branching", "learn", "(IZDD)V"⟩ : MethodName) (head1 (Jvm.Cond.code (⟨"com/example/bidfold/bidfold/Branching", "learn", "(IZDD)V"⟩ : MethodName) prog_13_method_3_code 7 none :: ws) ({ frames := 0, cells := 0, slots := 0, locals := 0 } : Room)) (fun a U => a = #[(.ref o0), (.int (0 : Int32)), (.int (1 : Int32)), (.double f3), (.double f4)] ∧ Z.Warmed39 U.vm ∧ U.heap = h0) (fun _ _ _ _ _ => True) (fun _ U o U' => ∃ v L, o = .returned v ∧ Q301 Z o0 f3 f4 upFalls_o0 upCounts_o0 uf0 uf1 uc0 uc1 h0 n0 v U'.heap L ∧ FrameEnd U o U' L ({ frames := 0, cells := 0, slots := 0, locals := 0 } : Room).cells ({ frames := 0, cells := 0, slots := 0, locals := 0 } : Room).slots) := by
  refine MetFree.of_bodySF (plainFor_of_name pn_com_example_bidfold_bidfold_Branching) hisR ?_
  intro p e s m args below meth c s₁ Bd hml0 hP hK
  obtain ⟨rfl, hZ, hh⟩ := hP
  have hx := Bd.exec
  have hby := Bd.bytes
  have hml : c.maxLocals = 7 := hml0
  have hown : s.vm.findClass "com/example/bidfold/bidfold/Branching" = some m.cls := findClass_of_methodNamed Bd.named
  have hnm := (name_of_methodNamed Bd.named Bd.method).1
  have X0 : Stand p l e ({ frames := 0, cells := 0, slots := 0, locals := 0 } : Room) s m #[(.ref o0), (.int (0 : Int32)), (.int (1 : Int32)), (.double f3), (.double f4)] below meth c s₁ [] 0 0 := Stand.of_body Bd
  have eH0 : s₁.heap = h0 := by rw [← hh, Bd.state]; rfl
  have N0 := Fr.nil n0
  have K0 := Keep.refl h0 [upFalls_o0, upCounts_o0]
  show Gt p.tables e below (fun o U' => ∃ v L, o = .returned v ∧ Q301 Z o0 f3 f4 upFalls_o0 upCounts_o0 uf0 uf1 uc0 uc1 h0 n0 v U'.heap L ∧ FrameEnd s o U' L ({ frames := 0, cells := 0, slots := 0, locals := 0 } : Room).cells ({ frames := 0, cells := 0, slots := 0, locals := 0 } : Room).slots) _
  refine own_cast (ef301 m o0 f3 f4) ?_
  refine own_dloadN X0 hx hby rfl d3_0 (pc' := 1) rfl ?_
  refine own_ldc2D X0 hx hby hZ hown (hw _ (List.mem_of_getElem? (i := 36) rfl)) d3_1 (pc' := 4) rfl ?_
  refine own_dcmp X0 hx hby rfl d3_4 (pc' := 5) rfl ?_
  by_cases hc1 : dle f3 (4517329193108106637 : UInt64)
  · refine own_ifT X0 hx hby d3_5 (own_dg_le_p hc1) (by decide) (pc' := 16) (by decide) ?_
    exact own_retV X0 hx hby Bd.notSynchronized Bd.returns d3_16 (by decide) (by decide) eH0 ⟨rfl, N0, K0, (by simp only [if_pos hc1]; exact V_upFalls_o0), (by simp only [if_pos hc1]; exact V_upCounts_o0)⟩
  · refine own_ifF X0 hx hby d3_5 (own_dg_le_n hc1) (pc' := 8) rfl ?_
    refine own_dloadN X0 hx hby rfl d3_8 (pc' := 9) rfl ?_
    refine own_ldc2D X0 hx hby hZ hown (hw _ (List.mem_of_getElem? (i := 53) rfl)) d3_9 (pc' := 12) rfl ?_
    refine own_dcmp X0 hx hby rfl d3_12 (pc' := 13) rfl ?_
    by_cases hc2 : dge f3 (4607182409792818153 : UInt64)
    · refine own_ifF X0 hx hby d3_13 (own_dl_lt_p hc2) (pc' := 16) rfl ?_
      exact own_retV X0 hx hby Bd.notSynchronized Bd.returns d3_16 (by decide) (by decide) eH0 ⟨rfl, N0, K0, (by simp only [if_neg hc1, if_pos hc2]; exact V_upFalls_o0), (by simp only [if_neg hc1, if_pos hc2]; exact V_upCounts_o0)⟩
    · refine own_ifT X0 hx hby d3_13 (own_dl_lt_n hc2) (by decide) (pc' := 17) (by decide) ?_
      refine own_iloadN X0 hx hby rfl d3_17 (pc' := 18) rfl ?_
      refine own_ifF X0 hx hby d3_18 (by decide) (pc' := 21) rfl ?_
      refine own_aloadN X0 hx hby rfl rfl d3_21 (pc' := 22) rfl ?_
      refine own_getF X0 hx hby hZ hown (host := "") (Or.inl (hw _ (List.mem_of_getElem? (i := 25) rfl))) Via.refl eH0 F_o0_upFalls d3_22 (pc' := 25) rfl (fun T3 X3 eH3 => ?_)
      refine own_iloadN X3 hx hby rfl d3_25 (pc' := 26) rfl ?_
      refine own_dup2 X3 hx hby rfl rfl d3_26 (pc' := 27) rfl ?_
      refine own_daload X3 hx hby hZ eH3 V_upFalls_o0 (by decide) (v := (.double uf0)) rfl d3_27 (pc' := 28) rfl ?_
      refine own_dload X3 hx hby rfl d3_28 (pc' := 30) rfl ?_
      refine own_dconst1 X3 hx hby (v := (4607182418800017408 : UInt64)) (by decide) d3_30 (pc' := 31) rfl ?_
      refine own_dloadN X3 hx hby rfl d3_31 (pc' := 32) rfl ?_
      refine own_dsub X3 hx hby (hn32_1 hc1 hc2) rfl d3_32 (pc' := 33) rfl ?_
      refine own_ddiv X3 hx hby (hn33_1 hc1 hc2) rfl d3_33 (pc' := 34) rfl ?_
      refine own_dadd X3 hx hby (hn34_1 hc1 hc2) rfl d3_34 (pc' := 35) rfl ?_
      refine own_dastore X3 hx hby hZ eH3 V_upFalls_o0 (by decide) (n := 0) (by decide) (of_decide_eq_true rfl) d3_35 (pc' := 36) rfl (fun T4 h4 X4 eH4 W4 => ?_)
      replace F_o0_upFalls := F_o0_upFalls.other W4 (Or.inl ne_o0_upFalls_o0)
      replace F_o0_upCounts := F_o0_upCounts.other W4 (Or.inl ne_o0_upFalls_o0)
      replace V_upCounts_o0 := V_upCounts_o0.other W4 ne_upCounts_o0_upFalls_o0
      have N4 := Fr.snoc X4 N0 g_upFalls_o0
      replace K0 := K0.wr W4 (Or.inl (by simp))
      replace Z0 := Nat.le_trans Z0 (Nat.le_of_eq W4.size.symm)
      replace V_upFalls_o0 : Ary tr Z h4 upFalls_o0 .double [(.double (FP.dadd uf0 (FP.ddiv f4 (FP.dsub (4607182418800017408 : UInt64) f3)))), (.double uf1)] := V_upFalls_o0.set W4
      refine own_aloadN X4 hx hby rfl rfl d3_36 (pc' := 37) rfl ?_
      refine own_getF X4 hx hby hZ hown (host := "") (Or.inl (hw _ (List.mem_of_getElem? (i := 27) rfl))) Via.refl eH4 F_o0_upCounts d3_37 (pc' := 40) rfl (fun T5 X5 eH5 => ?_)
      refine own_iloadN X5 hx hby rfl d3_40 (pc' := 41) rfl ?_
      refine own_dup2 X5 hx hby rfl rfl d3_41 (pc' := 42) rfl ?_
      refine own_iaload X5 hx hby hZ eH5 V_upCounts_o0 (by decide) (v := (.int uc0)) rfl d3_42 (pc' := 43) rfl ?_
      refine own_iconst X5 hx hby (v := (1 : Int32)) (by decide) d3_43 (pc' := 44) rfl ?_
      refine own_iadd X5 hx hby rfl d3_44 (pc' := 45) rfl ?_
      refine own_iastore X5 hx hby hZ eH5 V_upCounts_o0 (by decide) (n := 0) (by decide) (of_decide_eq_true rfl) d3_45 (pc' := 46) rfl (fun T6 h6 X6 eH6 W6 => ?_)
      replace F_o0_upFalls := F_o0_upFalls.other W6 (Or.inl ne_o0_upCounts_o0)
      replace F_o0_upCounts := F_o0_upCounts.other W6 (Or.inl ne_o0_upCounts_o0)
      replace V_upFalls_o0 := V_upFalls_o0.other W6 (Ne.symm ne_upCounts_o0_upFalls_o0)
      have N6 := Fr.snoc X6 N4 g_upCounts_o0
      replace K0 := K0.wr W6 (Or.inl (by simp))
      replace Z0 := Nat.le_trans Z0 (Nat.le_of_eq W6.size.symm)
      replace V_upCounts_o0 : Ary tr Z h6 upCounts_o0 .int [(.int (uc0 + (1 : Int32))), (.int uc1)] := V_upCounts_o0.set W6
      refine own_goto X6 hx hby d3_46 (by decide) (pc' := 72) (by decide) ?_
      exact own_retV X6 hx hby Bd.notSynchronized Bd.returns d3_72 (by decide) (by decide) eH6 ⟨rfl, N6, K0, (by simp only [if_neg hc1, if_neg hc2]; exact V_upFalls_o0), (by simp only [if_neg hc1, if_neg hc2]; exact V_upCounts_o0)⟩
theorem ef310 (m : MethodId) (x0 : Addr) (x3 : UInt64) (x4 : UInt64) : entryFrame m #[(.ref x0), (.int (1 : Int32)), (.int (0 : Int32)), (.double x3), (.double x4)] 7 = mkF m 0 #[.val (.ref x0), .val (.int (1 : Int32)), .val (.int (0 : Int32)), .val (.double x3), .second, .val (.double x4), .second] [] := by first | (simp [entryFrame, mkF, argsToLocals, Value.category]; done) | rfl
def Q310 (Z : State) (o0 : Addr) (f3 : UInt64) (f4 : UInt64) (downFalls_o0 : Addr) (downCounts_o0 : Addr) (df0 : UInt64) (df1 : UInt64) (dc0 : Int32) (dc1 : Int32) (h0 : Heap) (n0 : Nat) (v : Option Value) (h : Heap) (L : List Loc) : Prop := v = none ∧ Fr n0 L ∧ Keep h0 h [downFalls_o0, downCounts_o0] ∧ Ary tr Z h downFalls_o0 .double [(.double df0), (.double (if dle f3 (4517329193108106637 : UInt64) then df1 else (if dge f3 (4607182409792818153 : UInt64) then df1 else (FP.dadd df1 (FP.ddiv f4 f3)))))] ∧ Ary tr Z h downCounts_o0 .int [(.int dc0), (.int (if dle f3 (4517329193108106637 : UInt64) then dc1 else (if dge f3 (4607182409792818153 : UInt64) then dc1 else (dc1 + (1 : Int32)))))]
set_option maxRecDepth 65536 in
set_option maxHeartbeats 40000000 in
theorem rm310 (l : Launch) (Z : State) (a0 : Array Value) (hw : ∀ d ∈ tables_1, d.before a0 Z = true) (ws : List Jvm.Cond) (o0 : Addr) (f3 : UInt64) (f4 : UInt64) (downFalls_o0 : Addr) (downCounts_o0 : Addr) (df0 : UInt64) (df1 : UInt64) (dc0 : Int32) (dc1 : Int32) (h0 : Heap) (n0 : Nat) (Z0 : n0 ≤ h0.size) (F_o0_downFalls : Fld Z h0 o0 "com/example/bidfold/bidfold/Branching" "downFalls" "[D" (.ref downFalls_o0)) (F_o0_downCounts : Fld Z h0 o0 "com/example/bidfold/bidfold/Branching" "downCounts" "[I" (.ref downCounts_o0)) (V_downFalls_o0 : Ary tr Z h0 downFalls_o0 .double [(.double df0), (.double df1)]) (V_downCounts_o0 : Ary tr Z h0 downCounts_o0 .int [(.int dc0), (.int dc1)]) (hn59_1 : ((¬ (dle f3 (4517329193108106637 : UInt64))) → (¬ (dge f3 (4607182409792818153 : UInt64))) → NoNaN64 (FP.ddiv f4 f3))) (hn60_1 : ((¬ (dle f3 (4517329193108106637 : UInt64))) → (¬ (dge f3 (4607182409792818153 : UInt64))) → NoNaN64 (FP.dadd df1 (FP.ddiv f4 f3)))) (g_downFalls_o0 : n0 ≤ downFalls_o0) (ne_o0_downFalls_o0 : o0 ≠ downFalls_o0) (ne_downCounts_o0_downFalls_o0 : downCounts_o0 ≠ downFalls_o0) (g_downCounts_o0 : n0 ≤ downCounts_o0) (ne_o0_downCounts_o0 : o0 ≠ downCounts_o0) :
    MetFree l (⟨"com/example/bidfold/bidfold/Branching", "learn", "(IZDD)V"⟩ : MethodName) (head1 (Jvm.Cond.code (⟨"com/example/bidfold/bidfold/Branching", "learn", "(IZDD)V"⟩ : MethodName) prog_13_method_3_code 7 none :: ws) ({ frames := 0, cells := 0, slots := 0, locals := 0 } : Room)) (fun a U => a = #[(.ref o0), (.int (1 : Int32)), (.int (0 : Int32)), (.double f3), (.double f4)] ∧ Z.Warmed39 U.vm ∧ U.heap = h0) (fun _ _ _ _ _ => True) (fun _ U o U' => ∃ v L, o = .returned v ∧ Q310 Z o0 f3 f4 downFalls_o0 downCounts_o0 df0 df1 dc0 dc1 h0 n0 v U'.heap L ∧ FrameEnd U o U' L ({ frames := 0, cells := 0, slots := 0, locals := 0 } : Room).cells ({ frames := 0, cells := 0, slots := 0, locals := 0 } : Room).slots) := by
  refine MetFree.of_bodySF (plainFor_of_name pn_com_example_bidfold_bidfold_Branching) hisR ?_
  intro p e s m args below meth c s₁ Bd hml0 hP hK
  obtain ⟨rfl, hZ, hh⟩ := hP
  have hx := Bd.exec
  have hby := Bd.bytes
  have hml : c.maxLocals = 7 := hml0
  have hown : s.vm.findClass "com/example/bidfold/bidfold/Branching" = some m.cls := findClass_of_methodNamed Bd.named
  have hnm := (name_of_methodNamed Bd.named Bd.method).1
  have X0 : Stand p l e ({ frames := 0, cells := 0, slots := 0, locals := 0 } : Room) s m #[(.ref o0), (.int (1 : Int32)), (.int (0 : Int32)), (.double f3), (.double f4)] below meth c s₁ [] 0 0 := Stand.of_body Bd
  have eH0 : s₁.heap = h0 := by rw [← hh, Bd.state]; rfl
  have N0 := Fr.nil n0
  have K0 := Keep.refl h0 [downFalls_o0, downCounts_o0]
  show Gt p.tables e below (fun o U' => ∃ v L, o = .returned v ∧ Q310 Z o0 f3 f4 downFalls_o0 downCounts_o0 df0 df1 dc0 dc1 h0 n0 v U'.heap L ∧ FrameEnd s o U' L ({ frames := 0, cells := 0, slots := 0, locals := 0 } : Room).cells ({ frames := 0, cells := 0, slots := 0, locals := 0 } : Room).slots) _
  refine own_cast (ef310 m o0 f3 f4) ?_
  refine own_dloadN X0 hx hby rfl d3_0 (pc' := 1) rfl ?_
  refine own_ldc2D X0 hx hby hZ hown (hw _ (List.mem_of_getElem? (i := 36) rfl)) d3_1 (pc' := 4) rfl ?_
  refine own_dcmp X0 hx hby rfl d3_4 (pc' := 5) rfl ?_
  by_cases hc1 : dle f3 (4517329193108106637 : UInt64)
  · refine own_ifT X0 hx hby d3_5 (own_dg_le_p hc1) (by decide) (pc' := 16) (by decide) ?_
    exact own_retV X0 hx hby Bd.notSynchronized Bd.returns d3_16 (by decide) (by decide) eH0 ⟨rfl, N0, K0, (by simp only [if_pos hc1]; exact V_downFalls_o0), (by simp only [if_pos hc1]; exact V_downCounts_o0)⟩
  · refine own_ifF X0 hx hby d3_5 (own_dg_le_n hc1) (pc' := 8) rfl ?_
    refine own_dloadN X0 hx hby rfl d3_8 (pc' := 9) rfl ?_
    refine own_ldc2D X0 hx hby hZ hown (hw _ (List.mem_of_getElem? (i := 53) rfl)) d3_9 (pc' := 12) rfl ?_
    refine own_dcmp X0 hx hby rfl d3_12 (pc' := 13) rfl ?_
    by_cases hc2 : dge f3 (4607182409792818153 : UInt64)
    · refine own_ifF X0 hx hby d3_13 (own_dl_lt_p hc2) (pc' := 16) rfl ?_
      exact own_retV X0 hx hby Bd.notSynchronized Bd.returns d3_16 (by decide) (by decide) eH0 ⟨rfl, N0, K0, (by simp only [if_neg hc1, if_pos hc2]; exact V_downFalls_o0), (by simp only [if_neg hc1, if_pos hc2]; exact V_downCounts_o0)⟩
    · refine own_ifT X0 hx hby d3_13 (own_dl_lt_n hc2) (by decide) (pc' := 17) (by decide) ?_
      refine own_iloadN X0 hx hby rfl d3_17 (pc' := 18) rfl ?_
      refine own_ifT X0 hx hby d3_18 (by decide) (by decide) (pc' := 49) (by decide) ?_
      refine own_aloadN X0 hx hby rfl rfl d3_49 (pc' := 50) rfl ?_
      refine own_getF X0 hx hby hZ hown (host := "") (Or.inl (hw _ (List.mem_of_getElem? (i := 21) rfl))) Via.refl eH0 F_o0_downFalls d3_50 (pc' := 53) rfl (fun T3 X3 eH3 => ?_)
      refine own_iloadN X3 hx hby rfl d3_53 (pc' := 54) rfl ?_
      refine own_dup2 X3 hx hby rfl rfl d3_54 (pc' := 55) rfl ?_
      refine own_daload X3 hx hby hZ eH3 V_downFalls_o0 (by decide) (v := (.double df1)) rfl d3_55 (pc' := 56) rfl ?_
      refine own_dload X3 hx hby rfl d3_56 (pc' := 58) rfl ?_
      refine own_dloadN X3 hx hby rfl d3_58 (pc' := 59) rfl ?_
      refine own_ddiv X3 hx hby (hn59_1 hc1 hc2) rfl d3_59 (pc' := 60) rfl ?_
      refine own_dadd X3 hx hby (hn60_1 hc1 hc2) rfl d3_60 (pc' := 61) rfl ?_
      refine own_dastore X3 hx hby hZ eH3 V_downFalls_o0 (by decide) (n := 1) (by decide) (of_decide_eq_true rfl) d3_61 (pc' := 62) rfl (fun T4 h4 X4 eH4 W4 => ?_)
      replace F_o0_downFalls := F_o0_downFalls.other W4 (Or.inl ne_o0_downFalls_o0)
      replace F_o0_downCounts := F_o0_downCounts.other W4 (Or.inl ne_o0_downFalls_o0)
      replace V_downCounts_o0 := V_downCounts_o0.other W4 ne_downCounts_o0_downFalls_o0
      have N4 := Fr.snoc X4 N0 g_downFalls_o0
      replace K0 := K0.wr W4 (Or.inl (by simp))
      replace Z0 := Nat.le_trans Z0 (Nat.le_of_eq W4.size.symm)
      replace V_downFalls_o0 : Ary tr Z h4 downFalls_o0 .double [(.double df0), (.double (FP.dadd df1 (FP.ddiv f4 f3)))] := V_downFalls_o0.set W4
      refine own_aloadN X4 hx hby rfl rfl d3_62 (pc' := 63) rfl ?_
      refine own_getF X4 hx hby hZ hown (host := "") (Or.inl (hw _ (List.mem_of_getElem? (i := 23) rfl))) Via.refl eH4 F_o0_downCounts d3_63 (pc' := 66) rfl (fun T5 X5 eH5 => ?_)
      refine own_iloadN X5 hx hby rfl d3_66 (pc' := 67) rfl ?_
      refine own_dup2 X5 hx hby rfl rfl d3_67 (pc' := 68) rfl ?_
      refine own_iaload X5 hx hby hZ eH5 V_downCounts_o0 (by decide) (v := (.int dc1)) rfl d3_68 (pc' := 69) rfl ?_
      refine own_iconst X5 hx hby (v := (1 : Int32)) (by decide) d3_69 (pc' := 70) rfl ?_
      refine own_iadd X5 hx hby rfl d3_70 (pc' := 71) rfl ?_
      refine own_iastore X5 hx hby hZ eH5 V_downCounts_o0 (by decide) (n := 1) (by decide) (of_decide_eq_true rfl) d3_71 (pc' := 72) rfl (fun T6 h6 X6 eH6 W6 => ?_)
      replace F_o0_downFalls := F_o0_downFalls.other W6 (Or.inl ne_o0_downCounts_o0)
      replace F_o0_downCounts := F_o0_downCounts.other W6 (Or.inl ne_o0_downCounts_o0)
      replace V_downFalls_o0 := V_downFalls_o0.other W6 (Ne.symm ne_downCounts_o0_downFalls_o0)
      have N6 := Fr.snoc X6 N4 g_downCounts_o0
      replace K0 := K0.wr W6 (Or.inl (by simp))
      replace Z0 := Nat.le_trans Z0 (Nat.le_of_eq W6.size.symm)
      replace V_downCounts_o0 : Ary tr Z h6 downCounts_o0 .int [(.int dc0), (.int (dc1 + (1 : Int32)))] := V_downCounts_o0.set W6
      exact own_retV X6 hx hby Bd.notSynchronized Bd.returns d3_72 (by decide) (by decide) eH6 ⟨rfl, N6, K0, (by simp only [if_neg hc1, if_neg hc2]; exact V_downFalls_o0), (by simp only [if_neg hc1, if_neg hc2]; exact V_downCounts_o0)⟩
theorem ef311 (m : MethodId) (x0 : Addr) (x3 : UInt64) (x4 : UInt64) : entryFrame m #[(.ref x0), (.int (1 : Int32)), (.int (1 : Int32)), (.double x3), (.double x4)] 7 = mkF m 0 #[.val (.ref x0), .val (.int (1 : Int32)), .val (.int (1 : Int32)), .val (.double x3), .second, .val (.double x4), .second] [] := by first | (simp [entryFrame, mkF, argsToLocals, Value.category]; done) | rfl
def Q311 (Z : State) (o0 : Addr) (f3 : UInt64) (f4 : UInt64) (upFalls_o0 : Addr) (upCounts_o0 : Addr) (uf0 : UInt64) (uf1 : UInt64) (uc0 : Int32) (uc1 : Int32) (h0 : Heap) (n0 : Nat) (v : Option Value) (h : Heap) (L : List Loc) : Prop := v = none ∧ Fr n0 L ∧ Keep h0 h [upFalls_o0, upCounts_o0] ∧ Ary tr Z h upFalls_o0 .double [(.double uf0), (.double (if dle f3 (4517329193108106637 : UInt64) then uf1 else (if dge f3 (4607182409792818153 : UInt64) then uf1 else (FP.dadd uf1 (FP.ddiv f4 (FP.dsub (4607182418800017408 : UInt64) f3))))))] ∧ Ary tr Z h upCounts_o0 .int [(.int uc0), (.int (if dle f3 (4517329193108106637 : UInt64) then uc1 else (if dge f3 (4607182409792818153 : UInt64) then uc1 else (uc1 + (1 : Int32)))))]
set_option maxRecDepth 65536 in
set_option maxHeartbeats 40000000 in
theorem rm311 (l : Launch) (Z : State) (a0 : Array Value) (hw : ∀ d ∈ tables_1, d.before a0 Z = true) (ws : List Jvm.Cond) (o0 : Addr) (f3 : UInt64) (f4 : UInt64) (upFalls_o0 : Addr) (upCounts_o0 : Addr) (uf0 : UInt64) (uf1 : UInt64) (uc0 : Int32) (uc1 : Int32) (h0 : Heap) (n0 : Nat) (Z0 : n0 ≤ h0.size) (F_o0_upFalls : Fld Z h0 o0 "com/example/bidfold/bidfold/Branching" "upFalls" "[D" (.ref upFalls_o0)) (F_o0_upCounts : Fld Z h0 o0 "com/example/bidfold/bidfold/Branching" "upCounts" "[I" (.ref upCounts_o0)) (V_upFalls_o0 : Ary tr Z h0 upFalls_o0 .double [(.double uf0), (.double uf1)]) (V_upCounts_o0 : Ary tr Z h0 upCounts_o0 .int [(.int uc0), (.int uc1)]) (hn32_1 : ((¬ (dle f3 (4517329193108106637 : UInt64))) → (¬ (dge f3 (4607182409792818153 : UInt64))) → NoNaN64 (FP.dsub (4607182418800017408 : UInt64) f3))) (hn33_1 : ((¬ (dle f3 (4517329193108106637 : UInt64))) → (¬ (dge f3 (4607182409792818153 : UInt64))) → NoNaN64 (FP.ddiv f4 (FP.dsub (4607182418800017408 : UInt64) f3)))) (hn34_1 : ((¬ (dle f3 (4517329193108106637 : UInt64))) → (¬ (dge f3 (4607182409792818153 : UInt64))) → NoNaN64 (FP.dadd uf1 (FP.ddiv f4 (FP.dsub (4607182418800017408 : UInt64) f3))))) (g_upFalls_o0 : n0 ≤ upFalls_o0) (ne_o0_upFalls_o0 : o0 ≠ upFalls_o0) (ne_upCounts_o0_upFalls_o0 : upCounts_o0 ≠ upFalls_o0) (g_upCounts_o0 : n0 ≤ upCounts_o0) (ne_o0_upCounts_o0 : o0 ≠ upCounts_o0) :
    MetFree l (⟨"com/example/bidfold/bidfold/Branching", "learn", "(IZDD)V"⟩ : MethodName) (head1 (Jvm.Cond.code (⟨"com/example/bidfold/bidfold/Branching", "learn", "(IZDD)V"⟩ : MethodName) prog_13_method_3_code 7 none :: ws) ({ frames := 0, cells := 0, slots := 0, locals := 0 } : Room)) (fun a U => a = #[(.ref o0), (.int (1 : Int32)), (.int (1 : Int32)), (.double f3), (.double f4)] ∧ Z.Warmed39 U.vm ∧ U.heap = h0) (fun _ _ _ _ _ => True) (fun _ U o U' => ∃ v L, o = .returned v ∧ Q311 Z o0 f3 f4 upFalls_o0 upCounts_o0 uf0 uf1 uc0 uc1 h0 n0 v U'.heap L ∧ FrameEnd U o U' L ({ frames := 0, cells := 0, slots := 0, locals := 0 } : Room).cells ({ frames := 0, cells := 0, slots := 0, locals := 0 } : Room).slots) := by
  refine MetFree.of_bodySF (plainFor_of_name pn_com_example_bidfold_bidfold_Branching) hisR ?_
  intro p e s m args below meth c s₁ Bd hml0 hP hK
  obtain ⟨rfl, hZ, hh⟩ := hP
  have hx := Bd.exec
  have hby := Bd.bytes
  have hml : c.maxLocals = 7 := hml0
  have hown : s.vm.findClass "com/example/bidfold/bidfold/Branching" = some m.cls := findClass_of_methodNamed Bd.named
  have hnm := (name_of_methodNamed Bd.named Bd.method).1
  have X0 : Stand p l e ({ frames := 0, cells := 0, slots := 0, locals := 0 } : Room) s m #[(.ref o0), (.int (1 : Int32)), (.int (1 : Int32)), (.double f3), (.double f4)] below meth c s₁ [] 0 0 := Stand.of_body Bd
  have eH0 : s₁.heap = h0 := by rw [← hh, Bd.state]; rfl
  have N0 := Fr.nil n0
  have K0 := Keep.refl h0 [upFalls_o0, upCounts_o0]
  show Gt p.tables e below (fun o U' => ∃ v L, o = .returned v ∧ Q311 Z o0 f3 f4 upFalls_o0 upCounts_o0 uf0 uf1 uc0 uc1 h0 n0 v U'.heap L ∧ FrameEnd s o U' L ({ frames := 0, cells := 0, slots := 0, locals := 0 } : Room).cells ({ frames := 0, cells := 0, slots := 0, locals := 0 } : Room).slots) _
  refine own_cast (ef311 m o0 f3 f4) ?_
  refine own_dloadN X0 hx hby rfl d3_0 (pc' := 1) rfl ?_
  refine own_ldc2D X0 hx hby hZ hown (hw _ (List.mem_of_getElem? (i := 36) rfl)) d3_1 (pc' := 4) rfl ?_
  refine own_dcmp X0 hx hby rfl d3_4 (pc' := 5) rfl ?_
  by_cases hc1 : dle f3 (4517329193108106637 : UInt64)
  · refine own_ifT X0 hx hby d3_5 (own_dg_le_p hc1) (by decide) (pc' := 16) (by decide) ?_
    exact own_retV X0 hx hby Bd.notSynchronized Bd.returns d3_16 (by decide) (by decide) eH0 ⟨rfl, N0, K0, (by simp only [if_pos hc1]; exact V_upFalls_o0), (by simp only [if_pos hc1]; exact V_upCounts_o0)⟩
  · refine own_ifF X0 hx hby d3_5 (own_dg_le_n hc1) (pc' := 8) rfl ?_
    refine own_dloadN X0 hx hby rfl d3_8 (pc' := 9) rfl ?_
    refine own_ldc2D X0 hx hby hZ hown (hw _ (List.mem_of_getElem? (i := 53) rfl)) d3_9 (pc' := 12) rfl ?_
    refine own_dcmp X0 hx hby rfl d3_12 (pc' := 13) rfl ?_
    by_cases hc2 : dge f3 (4607182409792818153 : UInt64)
    · refine own_ifF X0 hx hby d3_13 (own_dl_lt_p hc2) (pc' := 16) rfl ?_
      exact own_retV X0 hx hby Bd.notSynchronized Bd.returns d3_16 (by decide) (by decide) eH0 ⟨rfl, N0, K0, (by simp only [if_neg hc1, if_pos hc2]; exact V_upFalls_o0), (by simp only [if_neg hc1, if_pos hc2]; exact V_upCounts_o0)⟩
    · refine own_ifT X0 hx hby d3_13 (own_dl_lt_n hc2) (by decide) (pc' := 17) (by decide) ?_
      refine own_iloadN X0 hx hby rfl d3_17 (pc' := 18) rfl ?_
      refine own_ifF X0 hx hby d3_18 (by decide) (pc' := 21) rfl ?_
      refine own_aloadN X0 hx hby rfl rfl d3_21 (pc' := 22) rfl ?_
      refine own_getF X0 hx hby hZ hown (host := "") (Or.inl (hw _ (List.mem_of_getElem? (i := 25) rfl))) Via.refl eH0 F_o0_upFalls d3_22 (pc' := 25) rfl (fun T3 X3 eH3 => ?_)
      refine own_iloadN X3 hx hby rfl d3_25 (pc' := 26) rfl ?_
      refine own_dup2 X3 hx hby rfl rfl d3_26 (pc' := 27) rfl ?_
      refine own_daload X3 hx hby hZ eH3 V_upFalls_o0 (by decide) (v := (.double uf1)) rfl d3_27 (pc' := 28) rfl ?_
      refine own_dload X3 hx hby rfl d3_28 (pc' := 30) rfl ?_
      refine own_dconst1 X3 hx hby (v := (4607182418800017408 : UInt64)) (by decide) d3_30 (pc' := 31) rfl ?_
      refine own_dloadN X3 hx hby rfl d3_31 (pc' := 32) rfl ?_
      refine own_dsub X3 hx hby (hn32_1 hc1 hc2) rfl d3_32 (pc' := 33) rfl ?_
      refine own_ddiv X3 hx hby (hn33_1 hc1 hc2) rfl d3_33 (pc' := 34) rfl ?_
      refine own_dadd X3 hx hby (hn34_1 hc1 hc2) rfl d3_34 (pc' := 35) rfl ?_
      refine own_dastore X3 hx hby hZ eH3 V_upFalls_o0 (by decide) (n := 1) (by decide) (of_decide_eq_true rfl) d3_35 (pc' := 36) rfl (fun T4 h4 X4 eH4 W4 => ?_)
      replace F_o0_upFalls := F_o0_upFalls.other W4 (Or.inl ne_o0_upFalls_o0)
      replace F_o0_upCounts := F_o0_upCounts.other W4 (Or.inl ne_o0_upFalls_o0)
      replace V_upCounts_o0 := V_upCounts_o0.other W4 ne_upCounts_o0_upFalls_o0
      have N4 := Fr.snoc X4 N0 g_upFalls_o0
      replace K0 := K0.wr W4 (Or.inl (by simp))
      replace Z0 := Nat.le_trans Z0 (Nat.le_of_eq W4.size.symm)
      replace V_upFalls_o0 : Ary tr Z h4 upFalls_o0 .double [(.double uf0), (.double (FP.dadd uf1 (FP.ddiv f4 (FP.dsub (4607182418800017408 : UInt64) f3))))] := V_upFalls_o0.set W4
      refine own_aloadN X4 hx hby rfl rfl d3_36 (pc' := 37) rfl ?_
      refine own_getF X4 hx hby hZ hown (host := "") (Or.inl (hw _ (List.mem_of_getElem? (i := 27) rfl))) Via.refl eH4 F_o0_upCounts d3_37 (pc' := 40) rfl (fun T5 X5 eH5 => ?_)
      refine own_iloadN X5 hx hby rfl d3_40 (pc' := 41) rfl ?_
      refine own_dup2 X5 hx hby rfl rfl d3_41 (pc' := 42) rfl ?_
      refine own_iaload X5 hx hby hZ eH5 V_upCounts_o0 (by decide) (v := (.int uc1)) rfl d3_42 (pc' := 43) rfl ?_
      refine own_iconst X5 hx hby (v := (1 : Int32)) (by decide) d3_43 (pc' := 44) rfl ?_
      refine own_iadd X5 hx hby rfl d3_44 (pc' := 45) rfl ?_
      refine own_iastore X5 hx hby hZ eH5 V_upCounts_o0 (by decide) (n := 1) (by decide) (of_decide_eq_true rfl) d3_45 (pc' := 46) rfl (fun T6 h6 X6 eH6 W6 => ?_)
      replace F_o0_upFalls := F_o0_upFalls.other W6 (Or.inl ne_o0_upCounts_o0)
      replace F_o0_upCounts := F_o0_upCounts.other W6 (Or.inl ne_o0_upCounts_o0)
      replace V_upFalls_o0 := V_upFalls_o0.other W6 (Ne.symm ne_upCounts_o0_upFalls_o0)
      have N6 := Fr.snoc X6 N4 g_upCounts_o0
      replace K0 := K0.wr W6 (Or.inl (by simp))
      replace Z0 := Nat.le_trans Z0 (Nat.le_of_eq W6.size.symm)
      replace V_upCounts_o0 : Ary tr Z h6 upCounts_o0 .int [(.int uc0), (.int (uc1 + (1 : Int32)))] := V_upCounts_o0.set W6
      refine own_goto X6 hx hby d3_46 (by decide) (pc' := 72) (by decide) ?_
      exact own_retV X6 hx hby Bd.notSynchronized Bd.returns d3_72 (by decide) (by decide) eH6 ⟨rfl, N6, K0, (by simp only [if_neg hc1, if_neg hc2]; exact V_upFalls_o0), (by simp only [if_neg hc1, if_neg hc2]; exact V_upCounts_o0)⟩
theorem ef400 (m : MethodId) (x2 : UInt64) (x3 : UInt64) (x4 : Addr) (x5 : Addr) (x6 : Addr) (x7 : Addr) : entryFrame m #[(.int (0 : Int32)), (.int (0 : Int32)), (.double x2), (.double x3), (.ref x4), (.ref x5), (.ref x6), (.ref x7)] 10 = mkF m 0 #[.val (.int (0 : Int32)), .val (.int (0 : Int32)), .val (.double x2), .second, .val (.double x3), .second, .val (.ref x4), .val (.ref x5), .val (.ref x6), .val (.ref x7)] [] := by first | (simp [entryFrame, mkF, argsToLocals, Value.category]; done) | rfl
def Q400 (Z : State) (f2 : UInt64) (f3 : UInt64) (o4 : Addr) (o5 : Addr) (o6 : Addr) (o7 : Addr) (e0 : UInt64) (e1 : UInt64) (cn0 : Int32) (cn1 : Int32) (h0 : Heap) (n0 : Nat) (v : Option Value) (h : Heap) (L : List Loc) : Prop := v = none ∧ Fr n0 L ∧ Keep h0 h [o6, o7] ∧ Ary tr Z h o6 .double [(.double (if dle f2 (4517329193108106637 : UInt64) then e0 else (if dge f2 (4607182409792818153 : UInt64) then e0 else (FP.dadd e0 (FP.ddiv f3 f2))))), (.double e1)] ∧ Ary tr Z h o7 .int [(.int (if dle f2 (4517329193108106637 : UInt64) then cn0 else (if dge f2 (4607182409792818153 : UInt64) then cn0 else (cn0 + (1 : Int32))))), (.int cn1)]
set_option maxRecDepth 65536 in
set_option maxHeartbeats 40000000 in
theorem rm400 (l : Launch) (Z : State) (a0 : Array Value) (hw : ∀ d ∈ tables_1, d.before a0 Z = true) (ws : List Jvm.Cond) (f2 : UInt64) (f3 : UInt64) (o4 : Addr) (o5 : Addr) (o6 : Addr) (o7 : Addr) (e0 : UInt64) (e1 : UInt64) (cn0 : Int32) (cn1 : Int32) (h0 : Heap) (n0 : Nat) (Z0 : n0 ≤ h0.size) (V_o6 : Ary tr Z h0 o6 .double [(.double e0), (.double e1)]) (V_o7 : Ary tr Z h0 o7 .int [(.int cn0), (.int cn1)]) (hn55_1 : ((¬ (dle f2 (4517329193108106637 : UInt64))) → (¬ (dge f2 (4607182409792818153 : UInt64))) → NoNaN64 (FP.ddiv f3 f2))) (hn56_1 : ((¬ (dle f2 (4517329193108106637 : UInt64))) → (¬ (dge f2 (4607182409792818153 : UInt64))) → NoNaN64 (FP.dadd e0 (FP.ddiv f3 f2)))) (g_o6 : n0 ≤ o6) (ne_o7_o6 : o7 ≠ o6) (g_o7 : n0 ≤ o7) :
    MetFree l (⟨"com/example/bidfold/bidfold/BranchingLearnPinLaw", "model", "(IZDD[D[I[D[I)V"⟩ : MethodName) (head1 (Jvm.Cond.code (⟨"com/example/bidfold/bidfold/BranchingLearnPinLaw", "model", "(IZDD[D[I[D[I)V"⟩ : MethodName) method_3_code 10 none :: ws) ({ frames := 0, cells := 0, slots := 0, locals := 0 } : Room)) (fun a U => a = #[(.int (0 : Int32)), (.int (0 : Int32)), (.double f2), (.double f3), (.ref o4), (.ref o5), (.ref o6), (.ref o7)] ∧ Z.Warmed39 U.vm ∧ U.heap = h0) (fun _ _ _ _ _ => True) (fun _ U o U' => ∃ v L, o = .returned v ∧ Q400 Z f2 f3 o4 o5 o6 o7 e0 e1 cn0 cn1 h0 n0 v U'.heap L ∧ FrameEnd U o U' L ({ frames := 0, cells := 0, slots := 0, locals := 0 } : Room).cells ({ frames := 0, cells := 0, slots := 0, locals := 0 } : Room).slots) := by
  refine MetFree.of_bodySF (plainFor_of_name pn_com_example_bidfold_bidfold_BranchingLearnPinLaw) hisR ?_
  intro p e s m args below meth c s₁ Bd hml0 hP hK
  obtain ⟨rfl, hZ, hh⟩ := hP
  have hx := Bd.exec
  have hby := Bd.bytes
  have hml : c.maxLocals = 10 := hml0
  have hown : s.vm.findClass "com/example/bidfold/bidfold/BranchingLearnPinLaw" = some m.cls := findClass_of_methodNamed Bd.named
  have hnm := (name_of_methodNamed Bd.named Bd.method).1
  have X0 : Stand p l e ({ frames := 0, cells := 0, slots := 0, locals := 0 } : Room) s m #[(.int (0 : Int32)), (.int (0 : Int32)), (.double f2), (.double f3), (.ref o4), (.ref o5), (.ref o6), (.ref o7)] below meth c s₁ [] 0 0 := Stand.of_body Bd
  have eH0 : s₁.heap = h0 := by rw [← hh, Bd.state]; rfl
  have N0 := Fr.nil n0
  have K0 := Keep.refl h0 [o6, o7]
  show Gt p.tables e below (fun o U' => ∃ v L, o = .returned v ∧ Q400 Z f2 f3 o4 o5 o6 o7 e0 e1 cn0 cn1 h0 n0 v U'.heap L ∧ FrameEnd s o U' L ({ frames := 0, cells := 0, slots := 0, locals := 0 } : Room).cells ({ frames := 0, cells := 0, slots := 0, locals := 0 } : Room).slots) _
  refine own_cast (ef400 m f2 f3 o4 o5 o6 o7) ?_
  refine own_dloadN X0 hx hby rfl d4_0 (pc' := 1) rfl ?_
  refine own_ldc2D X0 hx hby hZ hown (hw _ (List.mem_of_getElem? (i := 41) rfl)) d4_1 (pc' := 4) rfl ?_
  refine own_dcmp X0 hx hby rfl d4_4 (pc' := 5) rfl ?_
  by_cases hc1 : dle f2 (4517329193108106637 : UInt64)
  · refine own_ifT X0 hx hby d4_5 (own_dg_le_p hc1) (by decide) (pc' := 16) (by decide) ?_
    exact own_retV X0 hx hby Bd.notSynchronized Bd.returns d4_16 (by decide) (by decide) eH0 ⟨rfl, N0, K0, (by simp only [if_pos hc1]; exact V_o6), (by simp only [if_pos hc1]; exact V_o7)⟩
  · refine own_ifF X0 hx hby d4_5 (own_dg_le_n hc1) (pc' := 8) rfl ?_
    refine own_dloadN X0 hx hby rfl d4_8 (pc' := 9) rfl ?_
    refine own_ldc2D X0 hx hby hZ hown (hw _ (List.mem_of_getElem? (i := 54) rfl)) d4_9 (pc' := 12) rfl ?_
    refine own_dcmp X0 hx hby rfl d4_12 (pc' := 13) rfl ?_
    by_cases hc2 : dge f2 (4607182409792818153 : UInt64)
    · refine own_ifF X0 hx hby d4_13 (own_dl_lt_p hc2) (pc' := 16) rfl ?_
      exact own_retV X0 hx hby Bd.notSynchronized Bd.returns d4_16 (by decide) (by decide) eH0 ⟨rfl, N0, K0, (by simp only [if_neg hc1, if_pos hc2]; exact V_o6), (by simp only [if_neg hc1, if_pos hc2]; exact V_o7)⟩
    · refine own_ifT X0 hx hby d4_13 (own_dl_lt_n hc2) (by decide) (pc' := 17) (by decide) ?_
      refine own_iloadN X0 hx hby rfl d4_17 (pc' := 18) rfl ?_
      refine own_ifT X0 hx hby d4_18 (by decide) (by decide) (pc' := 47) (by decide) ?_
      refine own_aload X0 hx hby rfl rfl d4_47 (pc' := 49) rfl ?_
      refine own_iloadN X0 hx hby rfl d4_49 (pc' := 50) rfl ?_
      refine own_dup2 X0 hx hby rfl rfl d4_50 (pc' := 51) rfl ?_
      refine own_daload X0 hx hby hZ eH0 V_o6 (by decide) (v := (.double e0)) rfl d4_51 (pc' := 52) rfl ?_
      refine own_dload X0 hx hby rfl d4_52 (pc' := 54) rfl ?_
      refine own_dloadN X0 hx hby rfl d4_54 (pc' := 55) rfl ?_
      refine own_ddiv X0 hx hby (hn55_1 hc1 hc2) rfl d4_55 (pc' := 56) rfl ?_
      refine own_dadd X0 hx hby (hn56_1 hc1 hc2) rfl d4_56 (pc' := 57) rfl ?_
      refine own_dastore X0 hx hby hZ eH0 V_o6 (by decide) (n := 0) (by decide) (of_decide_eq_true rfl) d4_57 (pc' := 58) rfl (fun T3 h3 X3 eH3 W3 => ?_)
      replace V_o7 := V_o7.other W3 ne_o7_o6
      have N3 := Fr.snoc X3 N0 g_o6
      replace K0 := K0.wr W3 (Or.inl (by simp))
      replace Z0 := Nat.le_trans Z0 (Nat.le_of_eq W3.size.symm)
      replace V_o6 : Ary tr Z h3 o6 .double [(.double (FP.dadd e0 (FP.ddiv f3 f2))), (.double e1)] := V_o6.set W3
      refine own_aload X3 hx hby rfl rfl d4_58 (pc' := 60) rfl ?_
      refine own_iloadN X3 hx hby rfl d4_60 (pc' := 61) rfl ?_
      refine own_aload X3 hx hby rfl rfl d4_61 (pc' := 63) rfl ?_
      refine own_iloadN X3 hx hby rfl d4_63 (pc' := 64) rfl ?_
      refine own_iaload X3 hx hby hZ eH3 V_o7 (by decide) (v := (.int cn0)) rfl d4_64 (pc' := 65) rfl ?_
      refine own_iconst X3 hx hby (v := (1 : Int32)) (by decide) d4_65 (pc' := 66) rfl ?_
      refine own_iadd X3 hx hby rfl d4_66 (pc' := 67) rfl ?_
      refine own_iastore X3 hx hby hZ eH3 V_o7 (by decide) (n := 0) (by decide) (of_decide_eq_true rfl) d4_67 (pc' := 68) rfl (fun T4 h4 X4 eH4 W4 => ?_)
      replace V_o6 := V_o6.other W4 (Ne.symm ne_o7_o6)
      have N4 := Fr.snoc X4 N3 g_o7
      replace K0 := K0.wr W4 (Or.inl (by simp))
      replace Z0 := Nat.le_trans Z0 (Nat.le_of_eq W4.size.symm)
      replace V_o7 : Ary tr Z h4 o7 .int [(.int (cn0 + (1 : Int32))), (.int cn1)] := V_o7.set W4
      exact own_retV X4 hx hby Bd.notSynchronized Bd.returns d4_68 (by decide) (by decide) eH4 ⟨rfl, N4, K0, (by simp only [if_neg hc1, if_neg hc2]; exact V_o6), (by simp only [if_neg hc1, if_neg hc2]; exact V_o7)⟩
theorem ef401 (m : MethodId) (x2 : UInt64) (x3 : UInt64) (x4 : Addr) (x5 : Addr) (x6 : Addr) (x7 : Addr) : entryFrame m #[(.int (0 : Int32)), (.int (1 : Int32)), (.double x2), (.double x3), (.ref x4), (.ref x5), (.ref x6), (.ref x7)] 10 = mkF m 0 #[.val (.int (0 : Int32)), .val (.int (1 : Int32)), .val (.double x2), .second, .val (.double x3), .second, .val (.ref x4), .val (.ref x5), .val (.ref x6), .val (.ref x7)] [] := by first | (simp [entryFrame, mkF, argsToLocals, Value.category]; done) | rfl
def Q401 (Z : State) (f2 : UInt64) (f3 : UInt64) (o4 : Addr) (o5 : Addr) (o6 : Addr) (o7 : Addr) (e0 : UInt64) (e1 : UInt64) (cn0 : Int32) (cn1 : Int32) (h0 : Heap) (n0 : Nat) (v : Option Value) (h : Heap) (L : List Loc) : Prop := v = none ∧ Fr n0 L ∧ Keep h0 h [o4, o5] ∧ Ary tr Z h o4 .double [(.double (if dle f2 (4517329193108106637 : UInt64) then e0 else (if dge f2 (4607182409792818153 : UInt64) then e0 else (FP.dadd e0 (FP.ddiv f3 (FP.dsub (4607182418800017408 : UInt64) f2)))))), (.double e1)] ∧ Ary tr Z h o5 .int [(.int (if dle f2 (4517329193108106637 : UInt64) then cn0 else (if dge f2 (4607182409792818153 : UInt64) then cn0 else (cn0 + (1 : Int32))))), (.int cn1)]
set_option maxRecDepth 65536 in
set_option maxHeartbeats 40000000 in
theorem rm401 (l : Launch) (Z : State) (a0 : Array Value) (hw : ∀ d ∈ tables_1, d.before a0 Z = true) (ws : List Jvm.Cond) (f2 : UInt64) (f3 : UInt64) (o4 : Addr) (o5 : Addr) (o6 : Addr) (o7 : Addr) (e0 : UInt64) (e1 : UInt64) (cn0 : Int32) (cn1 : Int32) (h0 : Heap) (n0 : Nat) (Z0 : n0 ≤ h0.size) (V_o4 : Ary tr Z h0 o4 .double [(.double e0), (.double e1)]) (V_o5 : Ary tr Z h0 o5 .int [(.int cn0), (.int cn1)]) (hn30_1 : ((¬ (dle f2 (4517329193108106637 : UInt64))) → (¬ (dge f2 (4607182409792818153 : UInt64))) → NoNaN64 (FP.dsub (4607182418800017408 : UInt64) f2))) (hn31_1 : ((¬ (dle f2 (4517329193108106637 : UInt64))) → (¬ (dge f2 (4607182409792818153 : UInt64))) → NoNaN64 (FP.ddiv f3 (FP.dsub (4607182418800017408 : UInt64) f2)))) (hn32_1 : ((¬ (dle f2 (4517329193108106637 : UInt64))) → (¬ (dge f2 (4607182409792818153 : UInt64))) → NoNaN64 (FP.dadd e0 (FP.ddiv f3 (FP.dsub (4607182418800017408 : UInt64) f2))))) (g_o4 : n0 ≤ o4) (ne_o5_o4 : o5 ≠ o4) (g_o5 : n0 ≤ o5) :
    MetFree l (⟨"com/example/bidfold/bidfold/BranchingLearnPinLaw", "model", "(IZDD[D[I[D[I)V"⟩ : MethodName) (head1 (Jvm.Cond.code (⟨"com/example/bidfold/bidfold/BranchingLearnPinLaw", "model", "(IZDD[D[I[D[I)V"⟩ : MethodName) method_3_code 10 none :: ws) ({ frames := 0, cells := 0, slots := 0, locals := 0 } : Room)) (fun a U => a = #[(.int (0 : Int32)), (.int (1 : Int32)), (.double f2), (.double f3), (.ref o4), (.ref o5), (.ref o6), (.ref o7)] ∧ Z.Warmed39 U.vm ∧ U.heap = h0) (fun _ _ _ _ _ => True) (fun _ U o U' => ∃ v L, o = .returned v ∧ Q401 Z f2 f3 o4 o5 o6 o7 e0 e1 cn0 cn1 h0 n0 v U'.heap L ∧ FrameEnd U o U' L ({ frames := 0, cells := 0, slots := 0, locals := 0 } : Room).cells ({ frames := 0, cells := 0, slots := 0, locals := 0 } : Room).slots) := by
  refine MetFree.of_bodySF (plainFor_of_name pn_com_example_bidfold_bidfold_BranchingLearnPinLaw) hisR ?_
  intro p e s m args below meth c s₁ Bd hml0 hP hK
  obtain ⟨rfl, hZ, hh⟩ := hP
  have hx := Bd.exec
  have hby := Bd.bytes
  have hml : c.maxLocals = 10 := hml0
  have hown : s.vm.findClass "com/example/bidfold/bidfold/BranchingLearnPinLaw" = some m.cls := findClass_of_methodNamed Bd.named
  have hnm := (name_of_methodNamed Bd.named Bd.method).1
  have X0 : Stand p l e ({ frames := 0, cells := 0, slots := 0, locals := 0 } : Room) s m #[(.int (0 : Int32)), (.int (1 : Int32)), (.double f2), (.double f3), (.ref o4), (.ref o5), (.ref o6), (.ref o7)] below meth c s₁ [] 0 0 := Stand.of_body Bd
  have eH0 : s₁.heap = h0 := by rw [← hh, Bd.state]; rfl
  have N0 := Fr.nil n0
  have K0 := Keep.refl h0 [o4, o5]
  show Gt p.tables e below (fun o U' => ∃ v L, o = .returned v ∧ Q401 Z f2 f3 o4 o5 o6 o7 e0 e1 cn0 cn1 h0 n0 v U'.heap L ∧ FrameEnd s o U' L ({ frames := 0, cells := 0, slots := 0, locals := 0 } : Room).cells ({ frames := 0, cells := 0, slots := 0, locals := 0 } : Room).slots) _
  refine own_cast (ef401 m f2 f3 o4 o5 o6 o7) ?_
  refine own_dloadN X0 hx hby rfl d4_0 (pc' := 1) rfl ?_
  refine own_ldc2D X0 hx hby hZ hown (hw _ (List.mem_of_getElem? (i := 41) rfl)) d4_1 (pc' := 4) rfl ?_
  refine own_dcmp X0 hx hby rfl d4_4 (pc' := 5) rfl ?_
  by_cases hc1 : dle f2 (4517329193108106637 : UInt64)
  · refine own_ifT X0 hx hby d4_5 (own_dg_le_p hc1) (by decide) (pc' := 16) (by decide) ?_
    exact own_retV X0 hx hby Bd.notSynchronized Bd.returns d4_16 (by decide) (by decide) eH0 ⟨rfl, N0, K0, (by simp only [if_pos hc1]; exact V_o4), (by simp only [if_pos hc1]; exact V_o5)⟩
  · refine own_ifF X0 hx hby d4_5 (own_dg_le_n hc1) (pc' := 8) rfl ?_
    refine own_dloadN X0 hx hby rfl d4_8 (pc' := 9) rfl ?_
    refine own_ldc2D X0 hx hby hZ hown (hw _ (List.mem_of_getElem? (i := 54) rfl)) d4_9 (pc' := 12) rfl ?_
    refine own_dcmp X0 hx hby rfl d4_12 (pc' := 13) rfl ?_
    by_cases hc2 : dge f2 (4607182409792818153 : UInt64)
    · refine own_ifF X0 hx hby d4_13 (own_dl_lt_p hc2) (pc' := 16) rfl ?_
      exact own_retV X0 hx hby Bd.notSynchronized Bd.returns d4_16 (by decide) (by decide) eH0 ⟨rfl, N0, K0, (by simp only [if_neg hc1, if_pos hc2]; exact V_o4), (by simp only [if_neg hc1, if_pos hc2]; exact V_o5)⟩
    · refine own_ifT X0 hx hby d4_13 (own_dl_lt_n hc2) (by decide) (pc' := 17) (by decide) ?_
      refine own_iloadN X0 hx hby rfl d4_17 (pc' := 18) rfl ?_
      refine own_ifF X0 hx hby d4_18 (by decide) (pc' := 21) rfl ?_
      refine own_aload X0 hx hby rfl rfl d4_21 (pc' := 23) rfl ?_
      refine own_iloadN X0 hx hby rfl d4_23 (pc' := 24) rfl ?_
      refine own_dup2 X0 hx hby rfl rfl d4_24 (pc' := 25) rfl ?_
      refine own_daload X0 hx hby hZ eH0 V_o4 (by decide) (v := (.double e0)) rfl d4_25 (pc' := 26) rfl ?_
      refine own_dload X0 hx hby rfl d4_26 (pc' := 28) rfl ?_
      refine own_dconst1 X0 hx hby (v := (4607182418800017408 : UInt64)) (by decide) d4_28 (pc' := 29) rfl ?_
      refine own_dloadN X0 hx hby rfl d4_29 (pc' := 30) rfl ?_
      refine own_dsub X0 hx hby (hn30_1 hc1 hc2) rfl d4_30 (pc' := 31) rfl ?_
      refine own_ddiv X0 hx hby (hn31_1 hc1 hc2) rfl d4_31 (pc' := 32) rfl ?_
      refine own_dadd X0 hx hby (hn32_1 hc1 hc2) rfl d4_32 (pc' := 33) rfl ?_
      refine own_dastore X0 hx hby hZ eH0 V_o4 (by decide) (n := 0) (by decide) (of_decide_eq_true rfl) d4_33 (pc' := 34) rfl (fun T3 h3 X3 eH3 W3 => ?_)
      replace V_o5 := V_o5.other W3 ne_o5_o4
      have N3 := Fr.snoc X3 N0 g_o4
      replace K0 := K0.wr W3 (Or.inl (by simp))
      replace Z0 := Nat.le_trans Z0 (Nat.le_of_eq W3.size.symm)
      replace V_o4 : Ary tr Z h3 o4 .double [(.double (FP.dadd e0 (FP.ddiv f3 (FP.dsub (4607182418800017408 : UInt64) f2)))), (.double e1)] := V_o4.set W3
      refine own_aload X3 hx hby rfl rfl d4_34 (pc' := 36) rfl ?_
      refine own_iloadN X3 hx hby rfl d4_36 (pc' := 37) rfl ?_
      refine own_aload X3 hx hby rfl rfl d4_37 (pc' := 39) rfl ?_
      refine own_iloadN X3 hx hby rfl d4_39 (pc' := 40) rfl ?_
      refine own_iaload X3 hx hby hZ eH3 V_o5 (by decide) (v := (.int cn0)) rfl d4_40 (pc' := 41) rfl ?_
      refine own_iconst X3 hx hby (v := (1 : Int32)) (by decide) d4_41 (pc' := 42) rfl ?_
      refine own_iadd X3 hx hby rfl d4_42 (pc' := 43) rfl ?_
      refine own_iastore X3 hx hby hZ eH3 V_o5 (by decide) (n := 0) (by decide) (of_decide_eq_true rfl) d4_43 (pc' := 44) rfl (fun T4 h4 X4 eH4 W4 => ?_)
      replace V_o4 := V_o4.other W4 (Ne.symm ne_o5_o4)
      have N4 := Fr.snoc X4 N3 g_o5
      replace K0 := K0.wr W4 (Or.inl (by simp))
      replace Z0 := Nat.le_trans Z0 (Nat.le_of_eq W4.size.symm)
      replace V_o5 : Ary tr Z h4 o5 .int [(.int (cn0 + (1 : Int32))), (.int cn1)] := V_o5.set W4
      refine own_goto X4 hx hby d4_44 (by decide) (pc' := 68) (by decide) ?_
      exact own_retV X4 hx hby Bd.notSynchronized Bd.returns d4_68 (by decide) (by decide) eH4 ⟨rfl, N4, K0, (by simp only [if_neg hc1, if_neg hc2]; exact V_o4), (by simp only [if_neg hc1, if_neg hc2]; exact V_o5)⟩
theorem ef410 (m : MethodId) (x2 : UInt64) (x3 : UInt64) (x4 : Addr) (x5 : Addr) (x6 : Addr) (x7 : Addr) : entryFrame m #[(.int (1 : Int32)), (.int (0 : Int32)), (.double x2), (.double x3), (.ref x4), (.ref x5), (.ref x6), (.ref x7)] 10 = mkF m 0 #[.val (.int (1 : Int32)), .val (.int (0 : Int32)), .val (.double x2), .second, .val (.double x3), .second, .val (.ref x4), .val (.ref x5), .val (.ref x6), .val (.ref x7)] [] := by first | (simp [entryFrame, mkF, argsToLocals, Value.category]; done) | rfl
def Q410 (Z : State) (f2 : UInt64) (f3 : UInt64) (o4 : Addr) (o5 : Addr) (o6 : Addr) (o7 : Addr) (e0 : UInt64) (e1 : UInt64) (cn0 : Int32) (cn1 : Int32) (h0 : Heap) (n0 : Nat) (v : Option Value) (h : Heap) (L : List Loc) : Prop := v = none ∧ Fr n0 L ∧ Keep h0 h [o6, o7] ∧ Ary tr Z h o6 .double [(.double e0), (.double (if dle f2 (4517329193108106637 : UInt64) then e1 else (if dge f2 (4607182409792818153 : UInt64) then e1 else (FP.dadd e1 (FP.ddiv f3 f2)))))] ∧ Ary tr Z h o7 .int [(.int cn0), (.int (if dle f2 (4517329193108106637 : UInt64) then cn1 else (if dge f2 (4607182409792818153 : UInt64) then cn1 else (cn1 + (1 : Int32)))))]
set_option maxRecDepth 65536 in
set_option maxHeartbeats 40000000 in
theorem rm410 (l : Launch) (Z : State) (a0 : Array Value) (hw : ∀ d ∈ tables_1, d.before a0 Z = true) (ws : List Jvm.Cond) (f2 : UInt64) (f3 : UInt64) (o4 : Addr) (o5 : Addr) (o6 : Addr) (o7 : Addr) (e0 : UInt64) (e1 : UInt64) (cn0 : Int32) (cn1 : Int32) (h0 : Heap) (n0 : Nat) (Z0 : n0 ≤ h0.size) (V_o6 : Ary tr Z h0 o6 .double [(.double e0), (.double e1)]) (V_o7 : Ary tr Z h0 o7 .int [(.int cn0), (.int cn1)]) (hn55_1 : ((¬ (dle f2 (4517329193108106637 : UInt64))) → (¬ (dge f2 (4607182409792818153 : UInt64))) → NoNaN64 (FP.ddiv f3 f2))) (hn56_1 : ((¬ (dle f2 (4517329193108106637 : UInt64))) → (¬ (dge f2 (4607182409792818153 : UInt64))) → NoNaN64 (FP.dadd e1 (FP.ddiv f3 f2)))) (g_o6 : n0 ≤ o6) (ne_o7_o6 : o7 ≠ o6) (g_o7 : n0 ≤ o7) :
    MetFree l (⟨"com/example/bidfold/bidfold/BranchingLearnPinLaw", "model", "(IZDD[D[I[D[I)V"⟩ : MethodName) (head1 (Jvm.Cond.code (⟨"com/example/bidfold/bidfold/BranchingLearnPinLaw", "model", "(IZDD[D[I[D[I)V"⟩ : MethodName) method_3_code 10 none :: ws) ({ frames := 0, cells := 0, slots := 0, locals := 0 } : Room)) (fun a U => a = #[(.int (1 : Int32)), (.int (0 : Int32)), (.double f2), (.double f3), (.ref o4), (.ref o5), (.ref o6), (.ref o7)] ∧ Z.Warmed39 U.vm ∧ U.heap = h0) (fun _ _ _ _ _ => True) (fun _ U o U' => ∃ v L, o = .returned v ∧ Q410 Z f2 f3 o4 o5 o6 o7 e0 e1 cn0 cn1 h0 n0 v U'.heap L ∧ FrameEnd U o U' L ({ frames := 0, cells := 0, slots := 0, locals := 0 } : Room).cells ({ frames := 0, cells := 0, slots := 0, locals := 0 } : Room).slots) := by
  refine MetFree.of_bodySF (plainFor_of_name pn_com_example_bidfold_bidfold_BranchingLearnPinLaw) hisR ?_
  intro p e s m args below meth c s₁ Bd hml0 hP hK
  obtain ⟨rfl, hZ, hh⟩ := hP
  have hx := Bd.exec
  have hby := Bd.bytes
  have hml : c.maxLocals = 10 := hml0
  have hown : s.vm.findClass "com/example/bidfold/bidfold/BranchingLearnPinLaw" = some m.cls := findClass_of_methodNamed Bd.named
  have hnm := (name_of_methodNamed Bd.named Bd.method).1
  have X0 : Stand p l e ({ frames := 0, cells := 0, slots := 0, locals := 0 } : Room) s m #[(.int (1 : Int32)), (.int (0 : Int32)), (.double f2), (.double f3), (.ref o4), (.ref o5), (.ref o6), (.ref o7)] below meth c s₁ [] 0 0 := Stand.of_body Bd
  have eH0 : s₁.heap = h0 := by rw [← hh, Bd.state]; rfl
  have N0 := Fr.nil n0
  have K0 := Keep.refl h0 [o6, o7]
  show Gt p.tables e below (fun o U' => ∃ v L, o = .returned v ∧ Q410 Z f2 f3 o4 o5 o6 o7 e0 e1 cn0 cn1 h0 n0 v U'.heap L ∧ FrameEnd s o U' L ({ frames := 0, cells := 0, slots := 0, locals := 0 } : Room).cells ({ frames := 0, cells := 0, slots := 0, locals := 0 } : Room).slots) _
  refine own_cast (ef410 m f2 f3 o4 o5 o6 o7) ?_
  refine own_dloadN X0 hx hby rfl d4_0 (pc' := 1) rfl ?_
  refine own_ldc2D X0 hx hby hZ hown (hw _ (List.mem_of_getElem? (i := 41) rfl)) d4_1 (pc' := 4) rfl ?_
  refine own_dcmp X0 hx hby rfl d4_4 (pc' := 5) rfl ?_
  by_cases hc1 : dle f2 (4517329193108106637 : UInt64)
  · refine own_ifT X0 hx hby d4_5 (own_dg_le_p hc1) (by decide) (pc' := 16) (by decide) ?_
    exact own_retV X0 hx hby Bd.notSynchronized Bd.returns d4_16 (by decide) (by decide) eH0 ⟨rfl, N0, K0, (by simp only [if_pos hc1]; exact V_o6), (by simp only [if_pos hc1]; exact V_o7)⟩
  · refine own_ifF X0 hx hby d4_5 (own_dg_le_n hc1) (pc' := 8) rfl ?_
    refine own_dloadN X0 hx hby rfl d4_8 (pc' := 9) rfl ?_
    refine own_ldc2D X0 hx hby hZ hown (hw _ (List.mem_of_getElem? (i := 54) rfl)) d4_9 (pc' := 12) rfl ?_
    refine own_dcmp X0 hx hby rfl d4_12 (pc' := 13) rfl ?_
    by_cases hc2 : dge f2 (4607182409792818153 : UInt64)
    · refine own_ifF X0 hx hby d4_13 (own_dl_lt_p hc2) (pc' := 16) rfl ?_
      exact own_retV X0 hx hby Bd.notSynchronized Bd.returns d4_16 (by decide) (by decide) eH0 ⟨rfl, N0, K0, (by simp only [if_neg hc1, if_pos hc2]; exact V_o6), (by simp only [if_neg hc1, if_pos hc2]; exact V_o7)⟩
    · refine own_ifT X0 hx hby d4_13 (own_dl_lt_n hc2) (by decide) (pc' := 17) (by decide) ?_
      refine own_iloadN X0 hx hby rfl d4_17 (pc' := 18) rfl ?_
      refine own_ifT X0 hx hby d4_18 (by decide) (by decide) (pc' := 47) (by decide) ?_
      refine own_aload X0 hx hby rfl rfl d4_47 (pc' := 49) rfl ?_
      refine own_iloadN X0 hx hby rfl d4_49 (pc' := 50) rfl ?_
      refine own_dup2 X0 hx hby rfl rfl d4_50 (pc' := 51) rfl ?_
      refine own_daload X0 hx hby hZ eH0 V_o6 (by decide) (v := (.double e1)) rfl d4_51 (pc' := 52) rfl ?_
      refine own_dload X0 hx hby rfl d4_52 (pc' := 54) rfl ?_
      refine own_dloadN X0 hx hby rfl d4_54 (pc' := 55) rfl ?_
      refine own_ddiv X0 hx hby (hn55_1 hc1 hc2) rfl d4_55 (pc' := 56) rfl ?_
      refine own_dadd X0 hx hby (hn56_1 hc1 hc2) rfl d4_56 (pc' := 57) rfl ?_
      refine own_dastore X0 hx hby hZ eH0 V_o6 (by decide) (n := 1) (by decide) (of_decide_eq_true rfl) d4_57 (pc' := 58) rfl (fun T3 h3 X3 eH3 W3 => ?_)
      replace V_o7 := V_o7.other W3 ne_o7_o6
      have N3 := Fr.snoc X3 N0 g_o6
      replace K0 := K0.wr W3 (Or.inl (by simp))
      replace Z0 := Nat.le_trans Z0 (Nat.le_of_eq W3.size.symm)
      replace V_o6 : Ary tr Z h3 o6 .double [(.double e0), (.double (FP.dadd e1 (FP.ddiv f3 f2)))] := V_o6.set W3
      refine own_aload X3 hx hby rfl rfl d4_58 (pc' := 60) rfl ?_
      refine own_iloadN X3 hx hby rfl d4_60 (pc' := 61) rfl ?_
      refine own_aload X3 hx hby rfl rfl d4_61 (pc' := 63) rfl ?_
      refine own_iloadN X3 hx hby rfl d4_63 (pc' := 64) rfl ?_
      refine own_iaload X3 hx hby hZ eH3 V_o7 (by decide) (v := (.int cn1)) rfl d4_64 (pc' := 65) rfl ?_
      refine own_iconst X3 hx hby (v := (1 : Int32)) (by decide) d4_65 (pc' := 66) rfl ?_
      refine own_iadd X3 hx hby rfl d4_66 (pc' := 67) rfl ?_
      refine own_iastore X3 hx hby hZ eH3 V_o7 (by decide) (n := 1) (by decide) (of_decide_eq_true rfl) d4_67 (pc' := 68) rfl (fun T4 h4 X4 eH4 W4 => ?_)
      replace V_o6 := V_o6.other W4 (Ne.symm ne_o7_o6)
      have N4 := Fr.snoc X4 N3 g_o7
      replace K0 := K0.wr W4 (Or.inl (by simp))
      replace Z0 := Nat.le_trans Z0 (Nat.le_of_eq W4.size.symm)
      replace V_o7 : Ary tr Z h4 o7 .int [(.int cn0), (.int (cn1 + (1 : Int32)))] := V_o7.set W4
      exact own_retV X4 hx hby Bd.notSynchronized Bd.returns d4_68 (by decide) (by decide) eH4 ⟨rfl, N4, K0, (by simp only [if_neg hc1, if_neg hc2]; exact V_o6), (by simp only [if_neg hc1, if_neg hc2]; exact V_o7)⟩
theorem ef411 (m : MethodId) (x2 : UInt64) (x3 : UInt64) (x4 : Addr) (x5 : Addr) (x6 : Addr) (x7 : Addr) : entryFrame m #[(.int (1 : Int32)), (.int (1 : Int32)), (.double x2), (.double x3), (.ref x4), (.ref x5), (.ref x6), (.ref x7)] 10 = mkF m 0 #[.val (.int (1 : Int32)), .val (.int (1 : Int32)), .val (.double x2), .second, .val (.double x3), .second, .val (.ref x4), .val (.ref x5), .val (.ref x6), .val (.ref x7)] [] := by first | (simp [entryFrame, mkF, argsToLocals, Value.category]; done) | rfl
def Q411 (Z : State) (f2 : UInt64) (f3 : UInt64) (o4 : Addr) (o5 : Addr) (o6 : Addr) (o7 : Addr) (e0 : UInt64) (e1 : UInt64) (cn0 : Int32) (cn1 : Int32) (h0 : Heap) (n0 : Nat) (v : Option Value) (h : Heap) (L : List Loc) : Prop := v = none ∧ Fr n0 L ∧ Keep h0 h [o4, o5] ∧ Ary tr Z h o4 .double [(.double e0), (.double (if dle f2 (4517329193108106637 : UInt64) then e1 else (if dge f2 (4607182409792818153 : UInt64) then e1 else (FP.dadd e1 (FP.ddiv f3 (FP.dsub (4607182418800017408 : UInt64) f2))))))] ∧ Ary tr Z h o5 .int [(.int cn0), (.int (if dle f2 (4517329193108106637 : UInt64) then cn1 else (if dge f2 (4607182409792818153 : UInt64) then cn1 else (cn1 + (1 : Int32)))))]
set_option maxRecDepth 65536 in
set_option maxHeartbeats 40000000 in
theorem rm411 (l : Launch) (Z : State) (a0 : Array Value) (hw : ∀ d ∈ tables_1, d.before a0 Z = true) (ws : List Jvm.Cond) (f2 : UInt64) (f3 : UInt64) (o4 : Addr) (o5 : Addr) (o6 : Addr) (o7 : Addr) (e0 : UInt64) (e1 : UInt64) (cn0 : Int32) (cn1 : Int32) (h0 : Heap) (n0 : Nat) (Z0 : n0 ≤ h0.size) (V_o4 : Ary tr Z h0 o4 .double [(.double e0), (.double e1)]) (V_o5 : Ary tr Z h0 o5 .int [(.int cn0), (.int cn1)]) (hn30_1 : ((¬ (dle f2 (4517329193108106637 : UInt64))) → (¬ (dge f2 (4607182409792818153 : UInt64))) → NoNaN64 (FP.dsub (4607182418800017408 : UInt64) f2))) (hn31_1 : ((¬ (dle f2 (4517329193108106637 : UInt64))) → (¬ (dge f2 (4607182409792818153 : UInt64))) → NoNaN64 (FP.ddiv f3 (FP.dsub (4607182418800017408 : UInt64) f2)))) (hn32_1 : ((¬ (dle f2 (4517329193108106637 : UInt64))) → (¬ (dge f2 (4607182409792818153 : UInt64))) → NoNaN64 (FP.dadd e1 (FP.ddiv f3 (FP.dsub (4607182418800017408 : UInt64) f2))))) (g_o4 : n0 ≤ o4) (ne_o5_o4 : o5 ≠ o4) (g_o5 : n0 ≤ o5) :
    MetFree l (⟨"com/example/bidfold/bidfold/BranchingLearnPinLaw", "model", "(IZDD[D[I[D[I)V"⟩ : MethodName) (head1 (Jvm.Cond.code (⟨"com/example/bidfold/bidfold/BranchingLearnPinLaw", "model", "(IZDD[D[I[D[I)V"⟩ : MethodName) method_3_code 10 none :: ws) ({ frames := 0, cells := 0, slots := 0, locals := 0 } : Room)) (fun a U => a = #[(.int (1 : Int32)), (.int (1 : Int32)), (.double f2), (.double f3), (.ref o4), (.ref o5), (.ref o6), (.ref o7)] ∧ Z.Warmed39 U.vm ∧ U.heap = h0) (fun _ _ _ _ _ => True) (fun _ U o U' => ∃ v L, o = .returned v ∧ Q411 Z f2 f3 o4 o5 o6 o7 e0 e1 cn0 cn1 h0 n0 v U'.heap L ∧ FrameEnd U o U' L ({ frames := 0, cells := 0, slots := 0, locals := 0 } : Room).cells ({ frames := 0, cells := 0, slots := 0, locals := 0 } : Room).slots) := by
  refine MetFree.of_bodySF (plainFor_of_name pn_com_example_bidfold_bidfold_BranchingLearnPinLaw) hisR ?_
  intro p e s m args below meth c s₁ Bd hml0 hP hK
  obtain ⟨rfl, hZ, hh⟩ := hP
  have hx := Bd.exec
  have hby := Bd.bytes
  have hml : c.maxLocals = 10 := hml0
  have hown : s.vm.findClass "com/example/bidfold/bidfold/BranchingLearnPinLaw" = some m.cls := findClass_of_methodNamed Bd.named
  have hnm := (name_of_methodNamed Bd.named Bd.method).1
  have X0 : Stand p l e ({ frames := 0, cells := 0, slots := 0, locals := 0 } : Room) s m #[(.int (1 : Int32)), (.int (1 : Int32)), (.double f2), (.double f3), (.ref o4), (.ref o5), (.ref o6), (.ref o7)] below meth c s₁ [] 0 0 := Stand.of_body Bd
  have eH0 : s₁.heap = h0 := by rw [← hh, Bd.state]; rfl
  have N0 := Fr.nil n0
  have K0 := Keep.refl h0 [o4, o5]
  show Gt p.tables e below (fun o U' => ∃ v L, o = .returned v ∧ Q411 Z f2 f3 o4 o5 o6 o7 e0 e1 cn0 cn1 h0 n0 v U'.heap L ∧ FrameEnd s o U' L ({ frames := 0, cells := 0, slots := 0, locals := 0 } : Room).cells ({ frames := 0, cells := 0, slots := 0, locals := 0 } : Room).slots) _
  refine own_cast (ef411 m f2 f3 o4 o5 o6 o7) ?_
  refine own_dloadN X0 hx hby rfl d4_0 (pc' := 1) rfl ?_
  refine own_ldc2D X0 hx hby hZ hown (hw _ (List.mem_of_getElem? (i := 41) rfl)) d4_1 (pc' := 4) rfl ?_
  refine own_dcmp X0 hx hby rfl d4_4 (pc' := 5) rfl ?_
  by_cases hc1 : dle f2 (4517329193108106637 : UInt64)
  · refine own_ifT X0 hx hby d4_5 (own_dg_le_p hc1) (by decide) (pc' := 16) (by decide) ?_
    exact own_retV X0 hx hby Bd.notSynchronized Bd.returns d4_16 (by decide) (by decide) eH0 ⟨rfl, N0, K0, (by simp only [if_pos hc1]; exact V_o4), (by simp only [if_pos hc1]; exact V_o5)⟩
  · refine own_ifF X0 hx hby d4_5 (own_dg_le_n hc1) (pc' := 8) rfl ?_
    refine own_dloadN X0 hx hby rfl d4_8 (pc' := 9) rfl ?_
    refine own_ldc2D X0 hx hby hZ hown (hw _ (List.mem_of_getElem? (i := 54) rfl)) d4_9 (pc' := 12) rfl ?_
    refine own_dcmp X0 hx hby rfl d4_12 (pc' := 13) rfl ?_
    by_cases hc2 : dge f2 (4607182409792818153 : UInt64)
    · refine own_ifF X0 hx hby d4_13 (own_dl_lt_p hc2) (pc' := 16) rfl ?_
      exact own_retV X0 hx hby Bd.notSynchronized Bd.returns d4_16 (by decide) (by decide) eH0 ⟨rfl, N0, K0, (by simp only [if_neg hc1, if_pos hc2]; exact V_o4), (by simp only [if_neg hc1, if_pos hc2]; exact V_o5)⟩
    · refine own_ifT X0 hx hby d4_13 (own_dl_lt_n hc2) (by decide) (pc' := 17) (by decide) ?_
      refine own_iloadN X0 hx hby rfl d4_17 (pc' := 18) rfl ?_
      refine own_ifF X0 hx hby d4_18 (by decide) (pc' := 21) rfl ?_
      refine own_aload X0 hx hby rfl rfl d4_21 (pc' := 23) rfl ?_
      refine own_iloadN X0 hx hby rfl d4_23 (pc' := 24) rfl ?_
      refine own_dup2 X0 hx hby rfl rfl d4_24 (pc' := 25) rfl ?_
      refine own_daload X0 hx hby hZ eH0 V_o4 (by decide) (v := (.double e1)) rfl d4_25 (pc' := 26) rfl ?_
      refine own_dload X0 hx hby rfl d4_26 (pc' := 28) rfl ?_
      refine own_dconst1 X0 hx hby (v := (4607182418800017408 : UInt64)) (by decide) d4_28 (pc' := 29) rfl ?_
      refine own_dloadN X0 hx hby rfl d4_29 (pc' := 30) rfl ?_
      refine own_dsub X0 hx hby (hn30_1 hc1 hc2) rfl d4_30 (pc' := 31) rfl ?_
      refine own_ddiv X0 hx hby (hn31_1 hc1 hc2) rfl d4_31 (pc' := 32) rfl ?_
      refine own_dadd X0 hx hby (hn32_1 hc1 hc2) rfl d4_32 (pc' := 33) rfl ?_
      refine own_dastore X0 hx hby hZ eH0 V_o4 (by decide) (n := 1) (by decide) (of_decide_eq_true rfl) d4_33 (pc' := 34) rfl (fun T3 h3 X3 eH3 W3 => ?_)
      replace V_o5 := V_o5.other W3 ne_o5_o4
      have N3 := Fr.snoc X3 N0 g_o4
      replace K0 := K0.wr W3 (Or.inl (by simp))
      replace Z0 := Nat.le_trans Z0 (Nat.le_of_eq W3.size.symm)
      replace V_o4 : Ary tr Z h3 o4 .double [(.double e0), (.double (FP.dadd e1 (FP.ddiv f3 (FP.dsub (4607182418800017408 : UInt64) f2))))] := V_o4.set W3
      refine own_aload X3 hx hby rfl rfl d4_34 (pc' := 36) rfl ?_
      refine own_iloadN X3 hx hby rfl d4_36 (pc' := 37) rfl ?_
      refine own_aload X3 hx hby rfl rfl d4_37 (pc' := 39) rfl ?_
      refine own_iloadN X3 hx hby rfl d4_39 (pc' := 40) rfl ?_
      refine own_iaload X3 hx hby hZ eH3 V_o5 (by decide) (v := (.int cn1)) rfl d4_40 (pc' := 41) rfl ?_
      refine own_iconst X3 hx hby (v := (1 : Int32)) (by decide) d4_41 (pc' := 42) rfl ?_
      refine own_iadd X3 hx hby rfl d4_42 (pc' := 43) rfl ?_
      refine own_iastore X3 hx hby hZ eH3 V_o5 (by decide) (n := 1) (by decide) (of_decide_eq_true rfl) d4_43 (pc' := 44) rfl (fun T4 h4 X4 eH4 W4 => ?_)
      replace V_o4 := V_o4.other W4 (Ne.symm ne_o5_o4)
      have N4 := Fr.snoc X4 N3 g_o5
      replace K0 := K0.wr W4 (Or.inl (by simp))
      replace Z0 := Nat.le_trans Z0 (Nat.le_of_eq W4.size.symm)
      replace V_o5 : Ary tr Z h4 o5 .int [(.int cn0), (.int (cn1 + (1 : Int32)))] := V_o5.set W4
      refine own_goto X4 hx hby d4_44 (by decide) (pc' := 68) (by decide) ?_
      exact own_retV X4 hx hby Bd.notSynchronized Bd.returns d4_68 (by decide) (by decide) eH4 ⟨rfl, N4, K0, (by simp only [if_neg hc1, if_neg hc2]; exact V_o4), (by simp only [if_neg hc1, if_neg hc2]; exact V_o5)⟩
theorem ef60 (m : MethodId) (x0 : Addr) (x1 : Addr) (x3 : UInt64) : entryFrame m #[(.ref x0), (.ref x1), (.int (0 : Int32)), (.double x3)] 5 = mkF m 0 #[.val (.ref x0), .val (.ref x1), .val (.int (0 : Int32)), .val (.double x3), .second] [] := by first | (simp [entryFrame, mkF, argsToLocals, Value.category]; done) | rfl
def Q60 (Z : State) (o0 : Addr) (o1 : Addr) (f3 : UInt64) (e0 : UInt64) (e1 : UInt64) (cn0 : Int32) (cn1 : Int32) (h0 : Heap) (n0 : Nat) (v : Option Value) (h : Heap) (L : List Loc) : Prop := v = some (.double (if 0 < cn0 then (FP.ddiv e0 (FP.i2d cn0)) else f3)) ∧ Fr n0 L ∧ h0 = h
set_option maxRecDepth 65536 in
set_option maxHeartbeats 40000000 in
theorem rm60 (l : Launch) (Z : State) (a0 : Array Value) (hw : ∀ d ∈ tables_1, d.before a0 Z = true) (ws : List Jvm.Cond) (o0 : Addr) (o1 : Addr) (f3 : UInt64) (e0 : UInt64) (e1 : UInt64) (cn0 : Int32) (cn1 : Int32) (h0 : Heap) (n0 : Nat) (Z0 : n0 ≤ h0.size) (V_o0 : Ary tr Z h0 o0 .double [(.double e0), (.double e1)]) (V_o1 : Ary tr Z h0 o1 .int [(.int cn0), (.int cn1)]) (hn13_1 : ((0 < cn0) → NoNaN64 (FP.ddiv e0 (FP.i2d cn0)))) :
    MetFree l (⟨"com/example/bidfold/bidfold/Branching", "fallPerUnit", "([D[IID)D"⟩ : MethodName) (head1 (Jvm.Cond.code (⟨"com/example/bidfold/bidfold/Branching", "fallPerUnit", "([D[IID)D"⟩ : MethodName) prog_13_method_7_code 5 (some .double) :: ws) ({ frames := 0, cells := 0, slots := 0, locals := 0 } : Room)) (fun a U => a = #[(.ref o0), (.ref o1), (.int (0 : Int32)), (.double f3)] ∧ Z.Warmed39 U.vm ∧ U.heap = h0) (fun _ _ _ _ _ => True) (fun _ U o U' => ∃ v L, o = .returned v ∧ Q60 Z o0 o1 f3 e0 e1 cn0 cn1 h0 n0 v U'.heap L ∧ FrameEnd U o U' L ({ frames := 0, cells := 0, slots := 0, locals := 0 } : Room).cells ({ frames := 0, cells := 0, slots := 0, locals := 0 } : Room).slots) := by
  refine MetFree.of_bodySF (plainFor_of_name pn_com_example_bidfold_bidfold_Branching) hisR ?_
  intro p e s m args below meth c s₁ Bd hml0 hP hK
  obtain ⟨rfl, hZ, hh⟩ := hP
  have hx := Bd.exec
  have hby := Bd.bytes
  have hml : c.maxLocals = 5 := hml0
  have hown : s.vm.findClass "com/example/bidfold/bidfold/Branching" = some m.cls := findClass_of_methodNamed Bd.named
  have hnm := (name_of_methodNamed Bd.named Bd.method).1
  have X0 : Stand p l e ({ frames := 0, cells := 0, slots := 0, locals := 0 } : Room) s m #[(.ref o0), (.ref o1), (.int (0 : Int32)), (.double f3)] below meth c s₁ [] 0 0 := Stand.of_body Bd
  have eH0 : s₁.heap = h0 := by rw [← hh, Bd.state]; rfl
  have N0 := Fr.nil n0
  show Gt p.tables e below (fun o U' => ∃ v L, o = .returned v ∧ Q60 Z o0 o1 f3 e0 e1 cn0 cn1 h0 n0 v U'.heap L ∧ FrameEnd s o U' L ({ frames := 0, cells := 0, slots := 0, locals := 0 } : Room).cells ({ frames := 0, cells := 0, slots := 0, locals := 0 } : Room).slots) _
  refine own_cast (ef60 m o0 o1 f3) ?_
  refine own_aloadN X0 hx hby rfl rfl d6_0 (pc' := 1) rfl ?_
  refine own_iloadN X0 hx hby rfl d6_1 (pc' := 2) rfl ?_
  refine own_iaload X0 hx hby hZ eH0 V_o1 (by decide) (v := (.int cn0)) rfl d6_2 (pc' := 3) rfl ?_
  by_cases hc1 : 0 < cn0
  · refine own_ifF X0 hx hby d6_3 (own_i0_le_p hc1) (pc' := 6) rfl ?_
    refine own_aloadN X0 hx hby rfl rfl d6_6 (pc' := 7) rfl ?_
    refine own_iloadN X0 hx hby rfl d6_7 (pc' := 8) rfl ?_
    refine own_daload X0 hx hby hZ eH0 V_o0 (by decide) (v := (.double e0)) rfl d6_8 (pc' := 9) rfl ?_
    refine own_aloadN X0 hx hby rfl rfl d6_9 (pc' := 10) rfl ?_
    refine own_iloadN X0 hx hby rfl d6_10 (pc' := 11) rfl ?_
    refine own_iaload X0 hx hby hZ eH0 V_o1 (by decide) (v := (.int cn0)) rfl d6_11 (pc' := 12) rfl ?_
    refine own_i2d X0 hx hby rfl d6_12 (pc' := 13) rfl ?_
    refine own_ddiv X0 hx hby (hn13_1 hc1) rfl d6_13 (pc' := 14) rfl ?_
    refine own_goto X0 hx hby d6_14 (by decide) (pc' := 18) (by decide) ?_
    exact own_retD X0 hx hby Bd.notSynchronized Bd.returns d6_18 (by decide) (by decide) eH0 ⟨(by rw [if_pos hc1]), N0, rfl⟩
  · refine own_ifT X0 hx hby d6_3 (own_i0_le_n hc1) (by decide) (pc' := 17) (by decide) ?_
    refine own_dloadN X0 hx hby rfl d6_17 (pc' := 18) rfl ?_
    exact own_retD X0 hx hby Bd.notSynchronized Bd.returns d6_18 (by decide) (by decide) eH0 ⟨(by rw [if_neg hc1]), N0, rfl⟩
theorem ef61 (m : MethodId) (x0 : Addr) (x1 : Addr) (x3 : UInt64) : entryFrame m #[(.ref x0), (.ref x1), (.int (1 : Int32)), (.double x3)] 5 = mkF m 0 #[.val (.ref x0), .val (.ref x1), .val (.int (1 : Int32)), .val (.double x3), .second] [] := by first | (simp [entryFrame, mkF, argsToLocals, Value.category]; done) | rfl
def Q61 (Z : State) (o0 : Addr) (o1 : Addr) (f3 : UInt64) (e0 : UInt64) (e1 : UInt64) (cn0 : Int32) (cn1 : Int32) (h0 : Heap) (n0 : Nat) (v : Option Value) (h : Heap) (L : List Loc) : Prop := v = some (.double (if 0 < cn1 then (FP.ddiv e1 (FP.i2d cn1)) else f3)) ∧ Fr n0 L ∧ h0 = h
set_option maxRecDepth 65536 in
set_option maxHeartbeats 40000000 in
theorem rm61 (l : Launch) (Z : State) (a0 : Array Value) (hw : ∀ d ∈ tables_1, d.before a0 Z = true) (ws : List Jvm.Cond) (o0 : Addr) (o1 : Addr) (f3 : UInt64) (e0 : UInt64) (e1 : UInt64) (cn0 : Int32) (cn1 : Int32) (h0 : Heap) (n0 : Nat) (Z0 : n0 ≤ h0.size) (V_o0 : Ary tr Z h0 o0 .double [(.double e0), (.double e1)]) (V_o1 : Ary tr Z h0 o1 .int [(.int cn0), (.int cn1)]) (hn13_1 : ((0 < cn1) → NoNaN64 (FP.ddiv e1 (FP.i2d cn1)))) :
    MetFree l (⟨"com/example/bidfold/bidfold/Branching", "fallPerUnit", "([D[IID)D"⟩ : MethodName) (head1 (Jvm.Cond.code (⟨"com/example/bidfold/bidfold/Branching", "fallPerUnit", "([D[IID)D"⟩ : MethodName) prog_13_method_7_code 5 (some .double) :: ws) ({ frames := 0, cells := 0, slots := 0, locals := 0 } : Room)) (fun a U => a = #[(.ref o0), (.ref o1), (.int (1 : Int32)), (.double f3)] ∧ Z.Warmed39 U.vm ∧ U.heap = h0) (fun _ _ _ _ _ => True) (fun _ U o U' => ∃ v L, o = .returned v ∧ Q61 Z o0 o1 f3 e0 e1 cn0 cn1 h0 n0 v U'.heap L ∧ FrameEnd U o U' L ({ frames := 0, cells := 0, slots := 0, locals := 0 } : Room).cells ({ frames := 0, cells := 0, slots := 0, locals := 0 } : Room).slots) := by
  refine MetFree.of_bodySF (plainFor_of_name pn_com_example_bidfold_bidfold_Branching) hisR ?_
  intro p e s m args below meth c s₁ Bd hml0 hP hK
  obtain ⟨rfl, hZ, hh⟩ := hP
  have hx := Bd.exec
  have hby := Bd.bytes
  have hml : c.maxLocals = 5 := hml0
  have hown : s.vm.findClass "com/example/bidfold/bidfold/Branching" = some m.cls := findClass_of_methodNamed Bd.named
  have hnm := (name_of_methodNamed Bd.named Bd.method).1
  have X0 : Stand p l e ({ frames := 0, cells := 0, slots := 0, locals := 0 } : Room) s m #[(.ref o0), (.ref o1), (.int (1 : Int32)), (.double f3)] below meth c s₁ [] 0 0 := Stand.of_body Bd
  have eH0 : s₁.heap = h0 := by rw [← hh, Bd.state]; rfl
  have N0 := Fr.nil n0
  show Gt p.tables e below (fun o U' => ∃ v L, o = .returned v ∧ Q61 Z o0 o1 f3 e0 e1 cn0 cn1 h0 n0 v U'.heap L ∧ FrameEnd s o U' L ({ frames := 0, cells := 0, slots := 0, locals := 0 } : Room).cells ({ frames := 0, cells := 0, slots := 0, locals := 0 } : Room).slots) _
  refine own_cast (ef61 m o0 o1 f3) ?_
  refine own_aloadN X0 hx hby rfl rfl d6_0 (pc' := 1) rfl ?_
  refine own_iloadN X0 hx hby rfl d6_1 (pc' := 2) rfl ?_
  refine own_iaload X0 hx hby hZ eH0 V_o1 (by decide) (v := (.int cn1)) rfl d6_2 (pc' := 3) rfl ?_
  by_cases hc1 : 0 < cn1
  · refine own_ifF X0 hx hby d6_3 (own_i0_le_p hc1) (pc' := 6) rfl ?_
    refine own_aloadN X0 hx hby rfl rfl d6_6 (pc' := 7) rfl ?_
    refine own_iloadN X0 hx hby rfl d6_7 (pc' := 8) rfl ?_
    refine own_daload X0 hx hby hZ eH0 V_o0 (by decide) (v := (.double e1)) rfl d6_8 (pc' := 9) rfl ?_
    refine own_aloadN X0 hx hby rfl rfl d6_9 (pc' := 10) rfl ?_
    refine own_iloadN X0 hx hby rfl d6_10 (pc' := 11) rfl ?_
    refine own_iaload X0 hx hby hZ eH0 V_o1 (by decide) (v := (.int cn1)) rfl d6_11 (pc' := 12) rfl ?_
    refine own_i2d X0 hx hby rfl d6_12 (pc' := 13) rfl ?_
    refine own_ddiv X0 hx hby (hn13_1 hc1) rfl d6_13 (pc' := 14) rfl ?_
    refine own_goto X0 hx hby d6_14 (by decide) (pc' := 18) (by decide) ?_
    exact own_retD X0 hx hby Bd.notSynchronized Bd.returns d6_18 (by decide) (by decide) eH0 ⟨(by rw [if_pos hc1]), N0, rfl⟩
  · refine own_ifT X0 hx hby d6_3 (own_i0_le_n hc1) (by decide) (pc' := 17) (by decide) ?_
    refine own_dloadN X0 hx hby rfl d6_17 (pc' := 18) rfl ?_
    exact own_retD X0 hx hby Bd.notSynchronized Bd.returns d6_18 (by decide) (by decide) eH0 ⟨(by rw [if_neg hc1]), N0, rfl⟩
theorem ef50 (m : MethodId) (x0 : Addr) (x2 : UInt64) : entryFrame m #[(.ref x0), (.int (0 : Int32)), (.double x2)] 4 = mkF m 0 #[.val (.ref x0), .val (.int (0 : Int32)), .val (.double x2), .second] [] := by first | (simp [entryFrame, mkF, argsToLocals, Value.category]; done) | rfl
def Q50 (Z : State) (o0 : Addr) (f2 : UInt64) (upFalls_o0 : Addr) (upCounts_o0 : Addr) (uf0 : UInt64) (uf1 : UInt64) (uc0 : Int32) (uc1 : Int32) (downFalls_o0 : Addr) (downCounts_o0 : Addr) (df0 : UInt64) (df1 : UInt64) (dc0 : Int32) (dc1 : Int32) (h0 : Heap) (n0 : Nat) (v : Option Value) (h : Heap) (L : List Loc) : Prop := v = some (.int (if dle (FP.dmul (if 0 < uc0 then (FP.ddiv uf0 (FP.i2d uc0)) else (4607182418800017408 : UInt64)) (FP.dsub (4607182418800017408 : UInt64) f2)) (FP.dmul (if 0 < dc0 then (FP.ddiv df0 (FP.i2d dc0)) else (4607182418800017408 : UInt64)) f2) then (1 : Int32) else (0 : Int32))) ∧ Fr n0 L ∧ h0 = h
set_option maxRecDepth 65536 in
set_option maxHeartbeats 40000000 in
theorem rm50 (l : Launch) (Z : State) (a0 : Array Value) (hw : ∀ d ∈ tables_1, d.before a0 Z = true) (ws : List Jvm.Cond) (o0 : Addr) (f2 : UInt64) (upFalls_o0 : Addr) (upCounts_o0 : Addr) (uf0 : UInt64) (uf1 : UInt64) (uc0 : Int32) (uc1 : Int32) (downFalls_o0 : Addr) (downCounts_o0 : Addr) (df0 : UInt64) (df1 : UInt64) (dc0 : Int32) (dc1 : Int32) (h0 : Heap) (n0 : Nat) (Z0 : n0 ≤ h0.size) (F_o0_upFalls : Fld Z h0 o0 "com/example/bidfold/bidfold/Branching" "upFalls" "[D" (.ref upFalls_o0)) (F_o0_upCounts : Fld Z h0 o0 "com/example/bidfold/bidfold/Branching" "upCounts" "[I" (.ref upCounts_o0)) (V_upFalls_o0 : Ary tr Z h0 upFalls_o0 .double [(.double uf0), (.double uf1)]) (V_upCounts_o0 : Ary tr Z h0 upCounts_o0 .int [(.int uc0), (.int uc1)]) (F_o0_downFalls : Fld Z h0 o0 "com/example/bidfold/bidfold/Branching" "downFalls" "[D" (.ref downFalls_o0)) (F_o0_downCounts : Fld Z h0 o0 "com/example/bidfold/bidfold/Branching" "downCounts" "[I" (.ref downCounts_o0)) (V_downFalls_o0 : Ary tr Z h0 downFalls_o0 .double [(.double df0), (.double df1)]) (V_downCounts_o0 : Ary tr Z h0 downCounts_o0 .int [(.int dc0), (.int dc1)]) (hn13_1_10 : ((0 < uc0) → NoNaN64 (FP.ddiv uf0 (FP.i2d uc0)))) (hn15_1 : (NoNaN64 (FP.dsub (4607182418800017408 : UInt64) f2))) (hn16_1 : (NoNaN64 (FP.dmul (if 0 < uc0 then (FP.ddiv uf0 (FP.i2d uc0)) else (4607182418800017408 : UInt64)) (FP.dsub (4607182418800017408 : UInt64) f2)))) (hn13_1_27 : ((0 < dc0) → NoNaN64 (FP.ddiv df0 (FP.i2d dc0)))) (hn31_1 : (NoNaN64 (FP.dmul (if 0 < dc0 then (FP.ddiv df0 (FP.i2d dc0)) else (4607182418800017408 : UInt64)) f2))) :
    MetFree l (⟨"com/example/bidfold/bidfold/Branching", "leansIn", "(ID)Z"⟩ : MethodName) (head1 (Jvm.Cond.code (⟨"com/example/bidfold/bidfold/Branching", "leansIn", "(ID)Z"⟩ : MethodName) prog_13_method_4_code 4 (some .boolean) :: ws) ({ frames := 1, cells := 0, slots := 0, locals := 18 } : Room)) (fun a U => a = #[(.ref o0), (.int (0 : Int32)), (.double f2)] ∧ Z.Warmed39 U.vm ∧ U.heap = h0) (fun _ _ _ _ _ => True) (fun _ U o U' => ∃ v L, o = .returned v ∧ Q50 Z o0 f2 upFalls_o0 upCounts_o0 uf0 uf1 uc0 uc1 downFalls_o0 downCounts_o0 df0 df1 dc0 dc1 h0 n0 v U'.heap L ∧ FrameEnd U o U' L ({ frames := 1, cells := 0, slots := 0, locals := 18 } : Room).cells ({ frames := 1, cells := 0, slots := 0, locals := 18 } : Room).slots) := by
  refine MetFree.of_bodySF (plainFor_of_name pn_com_example_bidfold_bidfold_Branching) hisR ?_
  intro p e s m args below meth c s₁ Bd hml0 hP hK
  obtain ⟨rfl, hZ, hh⟩ := hP
  have hx := Bd.exec
  have hby := Bd.bytes
  have hml : c.maxLocals = 4 := hml0
  have hown : s.vm.findClass "com/example/bidfold/bidfold/Branching" = some m.cls := findClass_of_methodNamed Bd.named
  have hnm := (name_of_methodNamed Bd.named Bd.method).1
  have X0 : Stand p l e ({ frames := 1, cells := 0, slots := 0, locals := 18 } : Room) s m #[(.ref o0), (.int (0 : Int32)), (.double f2)] below meth c s₁ [] 0 0 := Stand.of_body Bd
  have eH0 : s₁.heap = h0 := by rw [← hh, Bd.state]; rfl
  have N0 := Fr.nil n0
  show Gt p.tables e below (fun o U' => ∃ v L, o = .returned v ∧ Q50 Z o0 f2 upFalls_o0 upCounts_o0 uf0 uf1 uc0 uc1 downFalls_o0 downCounts_o0 df0 df1 dc0 dc1 h0 n0 v U'.heap L ∧ FrameEnd s o U' L ({ frames := 1, cells := 0, slots := 0, locals := 18 } : Room).cells ({ frames := 1, cells := 0, slots := 0, locals := 18 } : Room).slots) _
  refine own_cast (ef50 m o0 f2) ?_
  refine own_aloadN X0 hx hby rfl rfl d5_0 (pc' := 1) rfl ?_
  refine own_getF X0 hx hby hZ hown (host := "") (Or.inl (hw _ (List.mem_of_getElem? (i := 25) rfl))) Via.refl eH0 F_o0_upFalls d5_1 (pc' := 4) rfl (fun T1 X1 eH1 => ?_)
  refine own_aloadN X1 hx hby rfl rfl d5_4 (pc' := 5) rfl ?_
  refine own_getF X1 hx hby hZ hown (host := "") (Or.inl (hw _ (List.mem_of_getElem? (i := 27) rfl))) Via.refl eH1 F_o0_upCounts d5_5 (pc' := 8) rfl (fun T2 X2 eH2 => ?_)
  refine own_iloadN X2 hx hby rfl d5_8 (pc' := 9) rfl ?_
  refine own_dconst1 X2 hx hby (v := (4607182418800017408 : UInt64)) (by decide) d5_9 (pc' := 10) rfl ?_
  refine own_static X2 hx hby hZ (y := (⟨"com/example/bidfold/bidfold/Branching", "fallPerUnit", "([D[IID)D"⟩ : MethodName)) (rest := []) hown (hw _ (List.mem_of_getElem? (i := 47) rfl)) (hw _ (List.mem_of_getElem? (i := 48) rfl)) (hw _ (List.mem_of_getElem? (i := 49) rfl)) (hw _ (List.mem_of_getElem? (i := 10) rfl)) (by decide) (rm60 l Z a0 hw [] upFalls_o0 upCounts_o0 (4607182418800017408 : UInt64) uf0 uf1 uc0 uc1 h0 n0 Z0 V_upFalls_o0 V_upCounts_o0 hn13_1_10) eH2 (by rw [hml]; rfl) (argsL := [(.ref upFalls_o0), (.ref upCounts_o0), (.int (0 : Int32)), (.double (4607182418800017408 : UInt64))]) rfl (lenOf pd_0 rfl) rfl d5_10 (pc' := 13) rfl (by decide) (W := 0) (Nat.le_of_eq rfl) (by decide) (by decide) (by decide) (fun T3 h3 Lc3 v3r X3 eH3 hQ3 => ?_)
  obtain ⟨rfl, Nq3, rfl⟩ := hQ3
  have N3 := Fr.app N0 Nq3
  refine own_dconst1 X3 hx hby (v := (4607182418800017408 : UInt64)) (by decide) d5_13 (pc' := 14) rfl ?_
  refine own_dloadN X3 hx hby rfl d5_14 (pc' := 15) rfl ?_
  refine own_dsub X3 hx hby hn15_1 rfl d5_15 (pc' := 16) rfl ?_
  refine own_dmul X3 hx hby hn16_1 rfl d5_16 (pc' := 17) rfl ?_
  refine own_aloadN X3 hx hby rfl rfl d5_17 (pc' := 18) rfl ?_
  refine own_getF X3 hx hby hZ hown (host := "") (Or.inl (hw _ (List.mem_of_getElem? (i := 21) rfl))) Via.refl eH3 F_o0_downFalls d5_18 (pc' := 21) rfl (fun T4 X4 eH4 => ?_)
  refine own_aloadN X4 hx hby rfl rfl d5_21 (pc' := 22) rfl ?_
  refine own_getF X4 hx hby hZ hown (host := "") (Or.inl (hw _ (List.mem_of_getElem? (i := 23) rfl))) Via.refl eH4 F_o0_downCounts d5_22 (pc' := 25) rfl (fun T5 X5 eH5 => ?_)
  refine own_iloadN X5 hx hby rfl d5_25 (pc' := 26) rfl ?_
  refine own_dconst1 X5 hx hby (v := (4607182418800017408 : UInt64)) (by decide) d5_26 (pc' := 27) rfl ?_
  refine own_static X5 hx hby hZ (y := (⟨"com/example/bidfold/bidfold/Branching", "fallPerUnit", "([D[IID)D"⟩ : MethodName)) (rest := [(.double (FP.dmul (if 0 < uc0 then (FP.ddiv uf0 (FP.i2d uc0)) else (4607182418800017408 : UInt64)) (FP.dsub (4607182418800017408 : UInt64) f2)))]) hown (hw _ (List.mem_of_getElem? (i := 47) rfl)) (hw _ (List.mem_of_getElem? (i := 48) rfl)) (hw _ (List.mem_of_getElem? (i := 49) rfl)) (hw _ (List.mem_of_getElem? (i := 10) rfl)) (by decide) (rm60 l Z a0 hw [] downFalls_o0 downCounts_o0 (4607182418800017408 : UInt64) df0 df1 dc0 dc1 h0 n0 Z0 V_downFalls_o0 V_downCounts_o0 hn13_1_27) eH5 (by rw [hml]; rfl) (argsL := [(.ref downFalls_o0), (.ref downCounts_o0), (.int (0 : Int32)), (.double (4607182418800017408 : UInt64))]) rfl (lenOf pd_0 rfl) rfl d5_27 (pc' := 30) rfl (by decide) (W := 2) (Nat.le_of_eq rfl) (by decide) (by decide) (by decide) (fun T6 h6 Lc6 v6r X6 eH6 hQ6 => ?_)
  obtain ⟨rfl, Nq6, rfl⟩ := hQ6
  have N6 := Fr.app N3 Nq6
  refine own_dloadN X6 hx hby rfl d5_30 (pc' := 31) rfl ?_
  refine own_dmul X6 hx hby hn31_1 rfl d5_31 (pc' := 32) rfl ?_
  refine own_dcmp X6 hx hby rfl d5_32 (pc' := 33) rfl ?_
  by_cases hc7 : dle (FP.dmul (if 0 < uc0 then (FP.ddiv uf0 (FP.i2d uc0)) else (4607182418800017408 : UInt64)) (FP.dsub (4607182418800017408 : UInt64) f2)) (FP.dmul (if 0 < dc0 then (FP.ddiv df0 (FP.i2d dc0)) else (4607182418800017408 : UInt64)) f2)
  · refine own_ifF X6 hx hby d5_33 (own_dg_gt_p hc7) (pc' := 36) rfl ?_
    refine own_iconst X6 hx hby (v := (1 : Int32)) (by decide) d5_36 (pc' := 37) rfl ?_
    refine own_goto X6 hx hby d5_37 (by decide) (pc' := 41) (by decide) ?_
    exact own_retZ X6 hx hby Bd.notSynchronized Bd.returns (Or.inr rfl) d5_41 (by decide) (by decide) eH6 ⟨(by rw [if_pos hc7]), N6, rfl⟩
  · refine own_ifT X6 hx hby d5_33 (own_dg_gt_n hc7) (by decide) (pc' := 40) (by decide) ?_
    refine own_iconst X6 hx hby (v := (0 : Int32)) (by decide) d5_40 (pc' := 41) rfl ?_
    exact own_retZ X6 hx hby Bd.notSynchronized Bd.returns (Or.inl rfl) d5_41 (by decide) (by decide) eH6 ⟨(by rw [if_neg hc7]), N6, rfl⟩
theorem ef51 (m : MethodId) (x0 : Addr) (x2 : UInt64) : entryFrame m #[(.ref x0), (.int (1 : Int32)), (.double x2)] 4 = mkF m 0 #[.val (.ref x0), .val (.int (1 : Int32)), .val (.double x2), .second] [] := by first | (simp [entryFrame, mkF, argsToLocals, Value.category]; done) | rfl
def Q51 (Z : State) (o0 : Addr) (f2 : UInt64) (upFalls_o0 : Addr) (upCounts_o0 : Addr) (uf0 : UInt64) (uf1 : UInt64) (uc0 : Int32) (uc1 : Int32) (downFalls_o0 : Addr) (downCounts_o0 : Addr) (df0 : UInt64) (df1 : UInt64) (dc0 : Int32) (dc1 : Int32) (h0 : Heap) (n0 : Nat) (v : Option Value) (h : Heap) (L : List Loc) : Prop := v = some (.int (if dle (FP.dmul (if 0 < uc1 then (FP.ddiv uf1 (FP.i2d uc1)) else (4607182418800017408 : UInt64)) (FP.dsub (4607182418800017408 : UInt64) f2)) (FP.dmul (if 0 < dc1 then (FP.ddiv df1 (FP.i2d dc1)) else (4607182418800017408 : UInt64)) f2) then (1 : Int32) else (0 : Int32))) ∧ Fr n0 L ∧ h0 = h
set_option maxRecDepth 65536 in
set_option maxHeartbeats 40000000 in
theorem rm51 (l : Launch) (Z : State) (a0 : Array Value) (hw : ∀ d ∈ tables_1, d.before a0 Z = true) (ws : List Jvm.Cond) (o0 : Addr) (f2 : UInt64) (upFalls_o0 : Addr) (upCounts_o0 : Addr) (uf0 : UInt64) (uf1 : UInt64) (uc0 : Int32) (uc1 : Int32) (downFalls_o0 : Addr) (downCounts_o0 : Addr) (df0 : UInt64) (df1 : UInt64) (dc0 : Int32) (dc1 : Int32) (h0 : Heap) (n0 : Nat) (Z0 : n0 ≤ h0.size) (F_o0_upFalls : Fld Z h0 o0 "com/example/bidfold/bidfold/Branching" "upFalls" "[D" (.ref upFalls_o0)) (F_o0_upCounts : Fld Z h0 o0 "com/example/bidfold/bidfold/Branching" "upCounts" "[I" (.ref upCounts_o0)) (V_upFalls_o0 : Ary tr Z h0 upFalls_o0 .double [(.double uf0), (.double uf1)]) (V_upCounts_o0 : Ary tr Z h0 upCounts_o0 .int [(.int uc0), (.int uc1)]) (F_o0_downFalls : Fld Z h0 o0 "com/example/bidfold/bidfold/Branching" "downFalls" "[D" (.ref downFalls_o0)) (F_o0_downCounts : Fld Z h0 o0 "com/example/bidfold/bidfold/Branching" "downCounts" "[I" (.ref downCounts_o0)) (V_downFalls_o0 : Ary tr Z h0 downFalls_o0 .double [(.double df0), (.double df1)]) (V_downCounts_o0 : Ary tr Z h0 downCounts_o0 .int [(.int dc0), (.int dc1)]) (hn13_1_10 : ((0 < uc1) → NoNaN64 (FP.ddiv uf1 (FP.i2d uc1)))) (hn15_1 : (NoNaN64 (FP.dsub (4607182418800017408 : UInt64) f2))) (hn16_1 : (NoNaN64 (FP.dmul (if 0 < uc1 then (FP.ddiv uf1 (FP.i2d uc1)) else (4607182418800017408 : UInt64)) (FP.dsub (4607182418800017408 : UInt64) f2)))) (hn13_1_27 : ((0 < dc1) → NoNaN64 (FP.ddiv df1 (FP.i2d dc1)))) (hn31_1 : (NoNaN64 (FP.dmul (if 0 < dc1 then (FP.ddiv df1 (FP.i2d dc1)) else (4607182418800017408 : UInt64)) f2))) :
    MetFree l (⟨"com/example/bidfold/bidfold/Branching", "leansIn", "(ID)Z"⟩ : MethodName) (head1 (Jvm.Cond.code (⟨"com/example/bidfold/bidfold/Branching", "leansIn", "(ID)Z"⟩ : MethodName) prog_13_method_4_code 4 (some .boolean) :: ws) ({ frames := 1, cells := 0, slots := 0, locals := 18 } : Room)) (fun a U => a = #[(.ref o0), (.int (1 : Int32)), (.double f2)] ∧ Z.Warmed39 U.vm ∧ U.heap = h0) (fun _ _ _ _ _ => True) (fun _ U o U' => ∃ v L, o = .returned v ∧ Q51 Z o0 f2 upFalls_o0 upCounts_o0 uf0 uf1 uc0 uc1 downFalls_o0 downCounts_o0 df0 df1 dc0 dc1 h0 n0 v U'.heap L ∧ FrameEnd U o U' L ({ frames := 1, cells := 0, slots := 0, locals := 18 } : Room).cells ({ frames := 1, cells := 0, slots := 0, locals := 18 } : Room).slots) := by
  refine MetFree.of_bodySF (plainFor_of_name pn_com_example_bidfold_bidfold_Branching) hisR ?_
  intro p e s m args below meth c s₁ Bd hml0 hP hK
  obtain ⟨rfl, hZ, hh⟩ := hP
  have hx := Bd.exec
  have hby := Bd.bytes
  have hml : c.maxLocals = 4 := hml0
  have hown : s.vm.findClass "com/example/bidfold/bidfold/Branching" = some m.cls := findClass_of_methodNamed Bd.named
  have hnm := (name_of_methodNamed Bd.named Bd.method).1
  have X0 : Stand p l e ({ frames := 1, cells := 0, slots := 0, locals := 18 } : Room) s m #[(.ref o0), (.int (1 : Int32)), (.double f2)] below meth c s₁ [] 0 0 := Stand.of_body Bd
  have eH0 : s₁.heap = h0 := by rw [← hh, Bd.state]; rfl
  have N0 := Fr.nil n0
  show Gt p.tables e below (fun o U' => ∃ v L, o = .returned v ∧ Q51 Z o0 f2 upFalls_o0 upCounts_o0 uf0 uf1 uc0 uc1 downFalls_o0 downCounts_o0 df0 df1 dc0 dc1 h0 n0 v U'.heap L ∧ FrameEnd s o U' L ({ frames := 1, cells := 0, slots := 0, locals := 18 } : Room).cells ({ frames := 1, cells := 0, slots := 0, locals := 18 } : Room).slots) _
  refine own_cast (ef51 m o0 f2) ?_
  refine own_aloadN X0 hx hby rfl rfl d5_0 (pc' := 1) rfl ?_
  refine own_getF X0 hx hby hZ hown (host := "") (Or.inl (hw _ (List.mem_of_getElem? (i := 25) rfl))) Via.refl eH0 F_o0_upFalls d5_1 (pc' := 4) rfl (fun T1 X1 eH1 => ?_)
  refine own_aloadN X1 hx hby rfl rfl d5_4 (pc' := 5) rfl ?_
  refine own_getF X1 hx hby hZ hown (host := "") (Or.inl (hw _ (List.mem_of_getElem? (i := 27) rfl))) Via.refl eH1 F_o0_upCounts d5_5 (pc' := 8) rfl (fun T2 X2 eH2 => ?_)
  refine own_iloadN X2 hx hby rfl d5_8 (pc' := 9) rfl ?_
  refine own_dconst1 X2 hx hby (v := (4607182418800017408 : UInt64)) (by decide) d5_9 (pc' := 10) rfl ?_
  refine own_static X2 hx hby hZ (y := (⟨"com/example/bidfold/bidfold/Branching", "fallPerUnit", "([D[IID)D"⟩ : MethodName)) (rest := []) hown (hw _ (List.mem_of_getElem? (i := 47) rfl)) (hw _ (List.mem_of_getElem? (i := 48) rfl)) (hw _ (List.mem_of_getElem? (i := 49) rfl)) (hw _ (List.mem_of_getElem? (i := 10) rfl)) (by decide) (rm61 l Z a0 hw [] upFalls_o0 upCounts_o0 (4607182418800017408 : UInt64) uf0 uf1 uc0 uc1 h0 n0 Z0 V_upFalls_o0 V_upCounts_o0 hn13_1_10) eH2 (by rw [hml]; rfl) (argsL := [(.ref upFalls_o0), (.ref upCounts_o0), (.int (1 : Int32)), (.double (4607182418800017408 : UInt64))]) rfl (lenOf pd_0 rfl) rfl d5_10 (pc' := 13) rfl (by decide) (W := 0) (Nat.le_of_eq rfl) (by decide) (by decide) (by decide) (fun T3 h3 Lc3 v3r X3 eH3 hQ3 => ?_)
  obtain ⟨rfl, Nq3, rfl⟩ := hQ3
  have N3 := Fr.app N0 Nq3
  refine own_dconst1 X3 hx hby (v := (4607182418800017408 : UInt64)) (by decide) d5_13 (pc' := 14) rfl ?_
  refine own_dloadN X3 hx hby rfl d5_14 (pc' := 15) rfl ?_
  refine own_dsub X3 hx hby hn15_1 rfl d5_15 (pc' := 16) rfl ?_
  refine own_dmul X3 hx hby hn16_1 rfl d5_16 (pc' := 17) rfl ?_
  refine own_aloadN X3 hx hby rfl rfl d5_17 (pc' := 18) rfl ?_
  refine own_getF X3 hx hby hZ hown (host := "") (Or.inl (hw _ (List.mem_of_getElem? (i := 21) rfl))) Via.refl eH3 F_o0_downFalls d5_18 (pc' := 21) rfl (fun T4 X4 eH4 => ?_)
  refine own_aloadN X4 hx hby rfl rfl d5_21 (pc' := 22) rfl ?_
  refine own_getF X4 hx hby hZ hown (host := "") (Or.inl (hw _ (List.mem_of_getElem? (i := 23) rfl))) Via.refl eH4 F_o0_downCounts d5_22 (pc' := 25) rfl (fun T5 X5 eH5 => ?_)
  refine own_iloadN X5 hx hby rfl d5_25 (pc' := 26) rfl ?_
  refine own_dconst1 X5 hx hby (v := (4607182418800017408 : UInt64)) (by decide) d5_26 (pc' := 27) rfl ?_
  refine own_static X5 hx hby hZ (y := (⟨"com/example/bidfold/bidfold/Branching", "fallPerUnit", "([D[IID)D"⟩ : MethodName)) (rest := [(.double (FP.dmul (if 0 < uc1 then (FP.ddiv uf1 (FP.i2d uc1)) else (4607182418800017408 : UInt64)) (FP.dsub (4607182418800017408 : UInt64) f2)))]) hown (hw _ (List.mem_of_getElem? (i := 47) rfl)) (hw _ (List.mem_of_getElem? (i := 48) rfl)) (hw _ (List.mem_of_getElem? (i := 49) rfl)) (hw _ (List.mem_of_getElem? (i := 10) rfl)) (by decide) (rm61 l Z a0 hw [] downFalls_o0 downCounts_o0 (4607182418800017408 : UInt64) df0 df1 dc0 dc1 h0 n0 Z0 V_downFalls_o0 V_downCounts_o0 hn13_1_27) eH5 (by rw [hml]; rfl) (argsL := [(.ref downFalls_o0), (.ref downCounts_o0), (.int (1 : Int32)), (.double (4607182418800017408 : UInt64))]) rfl (lenOf pd_0 rfl) rfl d5_27 (pc' := 30) rfl (by decide) (W := 2) (Nat.le_of_eq rfl) (by decide) (by decide) (by decide) (fun T6 h6 Lc6 v6r X6 eH6 hQ6 => ?_)
  obtain ⟨rfl, Nq6, rfl⟩ := hQ6
  have N6 := Fr.app N3 Nq6
  refine own_dloadN X6 hx hby rfl d5_30 (pc' := 31) rfl ?_
  refine own_dmul X6 hx hby hn31_1 rfl d5_31 (pc' := 32) rfl ?_
  refine own_dcmp X6 hx hby rfl d5_32 (pc' := 33) rfl ?_
  by_cases hc7 : dle (FP.dmul (if 0 < uc1 then (FP.ddiv uf1 (FP.i2d uc1)) else (4607182418800017408 : UInt64)) (FP.dsub (4607182418800017408 : UInt64) f2)) (FP.dmul (if 0 < dc1 then (FP.ddiv df1 (FP.i2d dc1)) else (4607182418800017408 : UInt64)) f2)
  · refine own_ifF X6 hx hby d5_33 (own_dg_gt_p hc7) (pc' := 36) rfl ?_
    refine own_iconst X6 hx hby (v := (1 : Int32)) (by decide) d5_36 (pc' := 37) rfl ?_
    refine own_goto X6 hx hby d5_37 (by decide) (pc' := 41) (by decide) ?_
    exact own_retZ X6 hx hby Bd.notSynchronized Bd.returns (Or.inr rfl) d5_41 (by decide) (by decide) eH6 ⟨(by rw [if_pos hc7]), N6, rfl⟩
  · refine own_ifT X6 hx hby d5_33 (own_dg_gt_n hc7) (by decide) (pc' := 40) (by decide) ?_
    refine own_iconst X6 hx hby (v := (0 : Int32)) (by decide) d5_40 (pc' := 41) rfl ?_
    exact own_retZ X6 hx hby Bd.notSynchronized Bd.returns (Or.inl rfl) d5_41 (by decide) (by decide) eH6 ⟨(by rw [if_neg hc7]), N6, rfl⟩
theorem ef70 (m : MethodId) (x1 : UInt64) (x2 : Addr) (x3 : Addr) (x4 : Addr) (x5 : Addr) : entryFrame m #[(.int (0 : Int32)), (.double x1), (.ref x2), (.ref x3), (.ref x4), (.ref x5)] 11 = mkF m 0 #[.val (.int (0 : Int32)), .val (.double x1), .second, .val (.ref x2), .val (.ref x3), .val (.ref x4), .val (.ref x5), .unset, .unset, .unset, .unset] [] := by first | (simp [entryFrame, mkF, argsToLocals, Value.category]; done) | rfl
def Q70 (Z : State) (f1 : UInt64) (o2 : Addr) (o3 : Addr) (o4 : Addr) (o5 : Addr) (ue0 : UInt64) (ue1 : UInt64) (uc0 : Int32) (uc1 : Int32) (de0 : UInt64) (de1 : UInt64) (dc0 : Int32) (dc1 : Int32) (h0 : Heap) (n0 : Nat) (v : Option Value) (h : Heap) (L : List Loc) : Prop := v = some (.int (if dle (FP.dmul (if 0 < uc0 then (FP.ddiv ue0 (FP.i2d uc0)) else (4607182418800017408 : UInt64)) (FP.dsub (4607182418800017408 : UInt64) f1)) (FP.dmul (if 0 < dc0 then (FP.ddiv de0 (FP.i2d dc0)) else (4607182418800017408 : UInt64)) f1) then (1 : Int32) else (0 : Int32))) ∧ Fr n0 L ∧ h0 = h
set_option maxRecDepth 65536 in
set_option maxHeartbeats 40000000 in
theorem rm70 (l : Launch) (Z : State) (a0 : Array Value) (hw : ∀ d ∈ tables_1, d.before a0 Z = true) (ws : List Jvm.Cond) (f1 : UInt64) (o2 : Addr) (o3 : Addr) (o4 : Addr) (o5 : Addr) (ue0 : UInt64) (ue1 : UInt64) (uc0 : Int32) (uc1 : Int32) (de0 : UInt64) (de1 : UInt64) (dc0 : Int32) (dc1 : Int32) (h0 : Heap) (n0 : Nat) (Z0 : n0 ≤ h0.size) (V_o2 : Ary tr Z h0 o2 .double [(.double ue0), (.double ue1)]) (V_o3 : Ary tr Z h0 o3 .int [(.int uc0), (.int uc1)]) (V_o4 : Ary tr Z h0 o4 .double [(.double de0), (.double de1)]) (V_o5 : Ary tr Z h0 o5 .int [(.int dc0), (.int dc1)]) (hn15_1 : ((0 < uc0) → NoNaN64 (FP.ddiv ue0 (FP.i2d uc0)))) (hn38_1 : ((0 < dc0) → NoNaN64 (FP.ddiv de0 (FP.i2d dc0)))) (hn49_1 : (NoNaN64 (FP.dsub (4607182418800017408 : UInt64) f1))) (hn50_1 : (NoNaN64 (FP.dmul (if 0 < uc0 then (FP.ddiv ue0 (FP.i2d uc0)) else (4607182418800017408 : UInt64)) (FP.dsub (4607182418800017408 : UInt64) f1)))) (hn54_1 : (NoNaN64 (FP.dmul (if 0 < dc0 then (FP.ddiv de0 (FP.i2d dc0)) else (4607182418800017408 : UInt64)) f1))) :
    MetFree l (⟨"com/example/bidfold/bidfold/BranchingLearnPinLaw", "expect", "(ID[D[I[D[I)Z"⟩ : MethodName) (head1 (Jvm.Cond.code (⟨"com/example/bidfold/bidfold/BranchingLearnPinLaw", "expect", "(ID[D[I[D[I)Z"⟩ : MethodName) method_4_code 11 (some .boolean) :: ws) ({ frames := 0, cells := 0, slots := 0, locals := 0 } : Room)) (fun a U => a = #[(.int (0 : Int32)), (.double f1), (.ref o2), (.ref o3), (.ref o4), (.ref o5)] ∧ Z.Warmed39 U.vm ∧ U.heap = h0) (fun _ _ _ _ _ => True) (fun _ U o U' => ∃ v L, o = .returned v ∧ Q70 Z f1 o2 o3 o4 o5 ue0 ue1 uc0 uc1 de0 de1 dc0 dc1 h0 n0 v U'.heap L ∧ FrameEnd U o U' L ({ frames := 0, cells := 0, slots := 0, locals := 0 } : Room).cells ({ frames := 0, cells := 0, slots := 0, locals := 0 } : Room).slots) := by
  refine MetFree.of_bodySF (plainFor_of_name pn_com_example_bidfold_bidfold_BranchingLearnPinLaw) hisR ?_
  intro p e s m args below meth c s₁ Bd hml0 hP hK
  obtain ⟨rfl, hZ, hh⟩ := hP
  have hx := Bd.exec
  have hby := Bd.bytes
  have hml : c.maxLocals = 11 := hml0
  have hown : s.vm.findClass "com/example/bidfold/bidfold/BranchingLearnPinLaw" = some m.cls := findClass_of_methodNamed Bd.named
  have hnm := (name_of_methodNamed Bd.named Bd.method).1
  have X0 : Stand p l e ({ frames := 0, cells := 0, slots := 0, locals := 0 } : Room) s m #[(.int (0 : Int32)), (.double f1), (.ref o2), (.ref o3), (.ref o4), (.ref o5)] below meth c s₁ [] 0 0 := Stand.of_body Bd
  have eH0 : s₁.heap = h0 := by rw [← hh, Bd.state]; rfl
  have N0 := Fr.nil n0
  show Gt p.tables e below (fun o U' => ∃ v L, o = .returned v ∧ Q70 Z f1 o2 o3 o4 o5 ue0 ue1 uc0 uc1 de0 de1 dc0 dc1 h0 n0 v U'.heap L ∧ FrameEnd s o U' L ({ frames := 0, cells := 0, slots := 0, locals := 0 } : Room).cells ({ frames := 0, cells := 0, slots := 0, locals := 0 } : Room).slots) _
  refine own_cast (ef70 m f1 o2 o3 o4 o5) ?_
  refine own_aload X0 hx hby rfl rfl d7_0 (pc' := 2) rfl ?_
  refine own_iloadN X0 hx hby rfl d7_2 (pc' := 3) rfl ?_
  refine own_iaload X0 hx hby hZ eH0 V_o3 (by decide) (v := (.int uc0)) rfl d7_3 (pc' := 4) rfl ?_
  refine own_join (S' := s₁.setTop (mkF m 20 #[.val (.int (0 : Int32)), .val (.double f1), .second, .val (.ref o2), .val (.ref o3), .val (.ref o4), .val (.ref o5), .unset, .unset, .unset, .unset] [(.double (if 0 < uc0 then (FP.ddiv ue0 (FP.i2d uc0)) else (4607182418800017408 : UInt64)))])) (fun F' k' => ?_) ?_
  · revert k'; intro k'
    by_cases hc1 : 0 < uc0
    · simp only [if_pos hc1] at k'
      refine own_ifF X0 hx hby d7_4 (own_i0_le_p hc1) (pc' := 7) rfl ?_
      refine own_aloadN X0 hx hby rfl rfl d7_7 (pc' := 8) rfl ?_
      refine own_iloadN X0 hx hby rfl d7_8 (pc' := 9) rfl ?_
      refine own_daload X0 hx hby hZ eH0 V_o2 (by decide) (v := (.double ue0)) rfl d7_9 (pc' := 10) rfl ?_
      refine own_aload X0 hx hby rfl rfl d7_10 (pc' := 12) rfl ?_
      refine own_iloadN X0 hx hby rfl d7_12 (pc' := 13) rfl ?_
      refine own_iaload X0 hx hby hZ eH0 V_o3 (by decide) (v := (.int uc0)) rfl d7_13 (pc' := 14) rfl ?_
      refine own_i2d X0 hx hby rfl d7_14 (pc' := 15) rfl ?_
      refine own_ddiv X0 hx hby (hn15_1 hc1) rfl d7_15 (pc' := 16) rfl ?_
      refine own_goto X0 hx hby d7_16 (by decide) (pc' := 20) (by decide) ?_
      exact k'
    · simp only [if_neg hc1] at k'
      refine own_ifT X0 hx hby d7_4 (own_i0_le_n hc1) (by decide) (pc' := 19) (by decide) ?_
      refine own_dconst1 X0 hx hby (v := (4607182418800017408 : UInt64)) (by decide) d7_19 (pc' := 20) rfl ?_
      exact k'
  refine own_dstore X0 hx hby (L' := #[.val (.int (0 : Int32)), .val (.double f1), .second, .val (.ref o2), .val (.ref o3), .val (.ref o4), .val (.ref o5), .val (.double (if 0 < uc0 then (FP.ddiv ue0 (FP.i2d uc0)) else (4607182418800017408 : UInt64))), .second, .unset, .unset]) rfl d7_20 (pc' := 22) rfl ?_
  refine own_aload X0 hx hby rfl rfl d7_22 (pc' := 24) rfl ?_
  refine own_iloadN X0 hx hby rfl d7_24 (pc' := 25) rfl ?_
  refine own_iaload X0 hx hby hZ eH0 V_o5 (by decide) (v := (.int dc0)) rfl d7_25 (pc' := 26) rfl ?_
  refine own_join (S' := s₁.setTop (mkF m 43 #[.val (.int (0 : Int32)), .val (.double f1), .second, .val (.ref o2), .val (.ref o3), .val (.ref o4), .val (.ref o5), .val (.double (if 0 < uc0 then (FP.ddiv ue0 (FP.i2d uc0)) else (4607182418800017408 : UInt64))), .second, .unset, .unset] [(.double (if 0 < dc0 then (FP.ddiv de0 (FP.i2d dc0)) else (4607182418800017408 : UInt64)))])) (fun F' k' => ?_) ?_
  · revert k'; intro k'
    by_cases hc2 : 0 < dc0
    · simp only [if_pos hc2] at k'
      refine own_ifF X0 hx hby d7_26 (own_i0_le_p hc2) (pc' := 29) rfl ?_
      refine own_aload X0 hx hby rfl rfl d7_29 (pc' := 31) rfl ?_
      refine own_iloadN X0 hx hby rfl d7_31 (pc' := 32) rfl ?_
      refine own_daload X0 hx hby hZ eH0 V_o4 (by decide) (v := (.double de0)) rfl d7_32 (pc' := 33) rfl ?_
      refine own_aload X0 hx hby rfl rfl d7_33 (pc' := 35) rfl ?_
      refine own_iloadN X0 hx hby rfl d7_35 (pc' := 36) rfl ?_
      refine own_iaload X0 hx hby hZ eH0 V_o5 (by decide) (v := (.int dc0)) rfl d7_36 (pc' := 37) rfl ?_
      refine own_i2d X0 hx hby rfl d7_37 (pc' := 38) rfl ?_
      refine own_ddiv X0 hx hby (hn38_1 hc2) rfl d7_38 (pc' := 39) rfl ?_
      refine own_goto X0 hx hby d7_39 (by decide) (pc' := 43) (by decide) ?_
      exact k'
    · simp only [if_neg hc2] at k'
      refine own_ifT X0 hx hby d7_26 (own_i0_le_n hc2) (by decide) (pc' := 42) (by decide) ?_
      refine own_dconst1 X0 hx hby (v := (4607182418800017408 : UInt64)) (by decide) d7_42 (pc' := 43) rfl ?_
      exact k'
  refine own_dstore X0 hx hby (L' := #[.val (.int (0 : Int32)), .val (.double f1), .second, .val (.ref o2), .val (.ref o3), .val (.ref o4), .val (.ref o5), .val (.double (if 0 < uc0 then (FP.ddiv ue0 (FP.i2d uc0)) else (4607182418800017408 : UInt64))), .second, .val (.double (if 0 < dc0 then (FP.ddiv de0 (FP.i2d dc0)) else (4607182418800017408 : UInt64))), .second]) rfl d7_43 (pc' := 45) rfl ?_
  refine own_dload X0 hx hby rfl d7_45 (pc' := 47) rfl ?_
  refine own_dconst1 X0 hx hby (v := (4607182418800017408 : UInt64)) (by decide) d7_47 (pc' := 48) rfl ?_
  refine own_dloadN X0 hx hby rfl d7_48 (pc' := 49) rfl ?_
  refine own_dsub X0 hx hby hn49_1 rfl d7_49 (pc' := 50) rfl ?_
  refine own_dmul X0 hx hby hn50_1 rfl d7_50 (pc' := 51) rfl ?_
  refine own_dload X0 hx hby rfl d7_51 (pc' := 53) rfl ?_
  refine own_dloadN X0 hx hby rfl d7_53 (pc' := 54) rfl ?_
  refine own_dmul X0 hx hby hn54_1 rfl d7_54 (pc' := 55) rfl ?_
  refine own_dcmp X0 hx hby rfl d7_55 (pc' := 56) rfl ?_
  by_cases hc3 : dle (FP.dmul (if 0 < uc0 then (FP.ddiv ue0 (FP.i2d uc0)) else (4607182418800017408 : UInt64)) (FP.dsub (4607182418800017408 : UInt64) f1)) (FP.dmul (if 0 < dc0 then (FP.ddiv de0 (FP.i2d dc0)) else (4607182418800017408 : UInt64)) f1)
  · refine own_ifF X0 hx hby d7_56 (own_dg_gt_p hc3) (pc' := 59) rfl ?_
    refine own_iconst X0 hx hby (v := (1 : Int32)) (by decide) d7_59 (pc' := 60) rfl ?_
    refine own_goto X0 hx hby d7_60 (by decide) (pc' := 64) (by decide) ?_
    exact own_retZ X0 hx hby Bd.notSynchronized Bd.returns (Or.inr rfl) d7_64 (by decide) (by decide) eH0 ⟨(by rw [if_pos hc3]), N0, rfl⟩
  · refine own_ifT X0 hx hby d7_56 (own_dg_gt_n hc3) (by decide) (pc' := 63) (by decide) ?_
    refine own_iconst X0 hx hby (v := (0 : Int32)) (by decide) d7_63 (pc' := 64) rfl ?_
    exact own_retZ X0 hx hby Bd.notSynchronized Bd.returns (Or.inl rfl) d7_64 (by decide) (by decide) eH0 ⟨(by rw [if_neg hc3]), N0, rfl⟩
theorem ef71 (m : MethodId) (x1 : UInt64) (x2 : Addr) (x3 : Addr) (x4 : Addr) (x5 : Addr) : entryFrame m #[(.int (1 : Int32)), (.double x1), (.ref x2), (.ref x3), (.ref x4), (.ref x5)] 11 = mkF m 0 #[.val (.int (1 : Int32)), .val (.double x1), .second, .val (.ref x2), .val (.ref x3), .val (.ref x4), .val (.ref x5), .unset, .unset, .unset, .unset] [] := by first | (simp [entryFrame, mkF, argsToLocals, Value.category]; done) | rfl
def Q71 (Z : State) (f1 : UInt64) (o2 : Addr) (o3 : Addr) (o4 : Addr) (o5 : Addr) (ue0 : UInt64) (ue1 : UInt64) (uc0 : Int32) (uc1 : Int32) (de0 : UInt64) (de1 : UInt64) (dc0 : Int32) (dc1 : Int32) (h0 : Heap) (n0 : Nat) (v : Option Value) (h : Heap) (L : List Loc) : Prop := v = some (.int (if dle (FP.dmul (if 0 < uc1 then (FP.ddiv ue1 (FP.i2d uc1)) else (4607182418800017408 : UInt64)) (FP.dsub (4607182418800017408 : UInt64) f1)) (FP.dmul (if 0 < dc1 then (FP.ddiv de1 (FP.i2d dc1)) else (4607182418800017408 : UInt64)) f1) then (1 : Int32) else (0 : Int32))) ∧ Fr n0 L ∧ h0 = h
set_option maxRecDepth 65536 in
set_option maxHeartbeats 40000000 in
theorem rm71 (l : Launch) (Z : State) (a0 : Array Value) (hw : ∀ d ∈ tables_1, d.before a0 Z = true) (ws : List Jvm.Cond) (f1 : UInt64) (o2 : Addr) (o3 : Addr) (o4 : Addr) (o5 : Addr) (ue0 : UInt64) (ue1 : UInt64) (uc0 : Int32) (uc1 : Int32) (de0 : UInt64) (de1 : UInt64) (dc0 : Int32) (dc1 : Int32) (h0 : Heap) (n0 : Nat) (Z0 : n0 ≤ h0.size) (V_o2 : Ary tr Z h0 o2 .double [(.double ue0), (.double ue1)]) (V_o3 : Ary tr Z h0 o3 .int [(.int uc0), (.int uc1)]) (V_o4 : Ary tr Z h0 o4 .double [(.double de0), (.double de1)]) (V_o5 : Ary tr Z h0 o5 .int [(.int dc0), (.int dc1)]) (hn15_1 : ((0 < uc1) → NoNaN64 (FP.ddiv ue1 (FP.i2d uc1)))) (hn38_1 : ((0 < dc1) → NoNaN64 (FP.ddiv de1 (FP.i2d dc1)))) (hn49_1 : (NoNaN64 (FP.dsub (4607182418800017408 : UInt64) f1))) (hn50_1 : (NoNaN64 (FP.dmul (if 0 < uc1 then (FP.ddiv ue1 (FP.i2d uc1)) else (4607182418800017408 : UInt64)) (FP.dsub (4607182418800017408 : UInt64) f1)))) (hn54_1 : (NoNaN64 (FP.dmul (if 0 < dc1 then (FP.ddiv de1 (FP.i2d dc1)) else (4607182418800017408 : UInt64)) f1))) :
    MetFree l (⟨"com/example/bidfold/bidfold/BranchingLearnPinLaw", "expect", "(ID[D[I[D[I)Z"⟩ : MethodName) (head1 (Jvm.Cond.code (⟨"com/example/bidfold/bidfold/BranchingLearnPinLaw", "expect", "(ID[D[I[D[I)Z"⟩ : MethodName) method_4_code 11 (some .boolean) :: ws) ({ frames := 0, cells := 0, slots := 0, locals := 0 } : Room)) (fun a U => a = #[(.int (1 : Int32)), (.double f1), (.ref o2), (.ref o3), (.ref o4), (.ref o5)] ∧ Z.Warmed39 U.vm ∧ U.heap = h0) (fun _ _ _ _ _ => True) (fun _ U o U' => ∃ v L, o = .returned v ∧ Q71 Z f1 o2 o3 o4 o5 ue0 ue1 uc0 uc1 de0 de1 dc0 dc1 h0 n0 v U'.heap L ∧ FrameEnd U o U' L ({ frames := 0, cells := 0, slots := 0, locals := 0 } : Room).cells ({ frames := 0, cells := 0, slots := 0, locals := 0 } : Room).slots) := by
  refine MetFree.of_bodySF (plainFor_of_name pn_com_example_bidfold_bidfold_BranchingLearnPinLaw) hisR ?_
  intro p e s m args below meth c s₁ Bd hml0 hP hK
  obtain ⟨rfl, hZ, hh⟩ := hP
  have hx := Bd.exec
  have hby := Bd.bytes
  have hml : c.maxLocals = 11 := hml0
  have hown : s.vm.findClass "com/example/bidfold/bidfold/BranchingLearnPinLaw" = some m.cls := findClass_of_methodNamed Bd.named
  have hnm := (name_of_methodNamed Bd.named Bd.method).1
  have X0 : Stand p l e ({ frames := 0, cells := 0, slots := 0, locals := 0 } : Room) s m #[(.int (1 : Int32)), (.double f1), (.ref o2), (.ref o3), (.ref o4), (.ref o5)] below meth c s₁ [] 0 0 := Stand.of_body Bd
  have eH0 : s₁.heap = h0 := by rw [← hh, Bd.state]; rfl
  have N0 := Fr.nil n0
  show Gt p.tables e below (fun o U' => ∃ v L, o = .returned v ∧ Q71 Z f1 o2 o3 o4 o5 ue0 ue1 uc0 uc1 de0 de1 dc0 dc1 h0 n0 v U'.heap L ∧ FrameEnd s o U' L ({ frames := 0, cells := 0, slots := 0, locals := 0 } : Room).cells ({ frames := 0, cells := 0, slots := 0, locals := 0 } : Room).slots) _
  refine own_cast (ef71 m f1 o2 o3 o4 o5) ?_
  refine own_aload X0 hx hby rfl rfl d7_0 (pc' := 2) rfl ?_
  refine own_iloadN X0 hx hby rfl d7_2 (pc' := 3) rfl ?_
  refine own_iaload X0 hx hby hZ eH0 V_o3 (by decide) (v := (.int uc1)) rfl d7_3 (pc' := 4) rfl ?_
  refine own_join (S' := s₁.setTop (mkF m 20 #[.val (.int (1 : Int32)), .val (.double f1), .second, .val (.ref o2), .val (.ref o3), .val (.ref o4), .val (.ref o5), .unset, .unset, .unset, .unset] [(.double (if 0 < uc1 then (FP.ddiv ue1 (FP.i2d uc1)) else (4607182418800017408 : UInt64)))])) (fun F' k' => ?_) ?_
  · revert k'; intro k'
    by_cases hc1 : 0 < uc1
    · simp only [if_pos hc1] at k'
      refine own_ifF X0 hx hby d7_4 (own_i0_le_p hc1) (pc' := 7) rfl ?_
      refine own_aloadN X0 hx hby rfl rfl d7_7 (pc' := 8) rfl ?_
      refine own_iloadN X0 hx hby rfl d7_8 (pc' := 9) rfl ?_
      refine own_daload X0 hx hby hZ eH0 V_o2 (by decide) (v := (.double ue1)) rfl d7_9 (pc' := 10) rfl ?_
      refine own_aload X0 hx hby rfl rfl d7_10 (pc' := 12) rfl ?_
      refine own_iloadN X0 hx hby rfl d7_12 (pc' := 13) rfl ?_
      refine own_iaload X0 hx hby hZ eH0 V_o3 (by decide) (v := (.int uc1)) rfl d7_13 (pc' := 14) rfl ?_
      refine own_i2d X0 hx hby rfl d7_14 (pc' := 15) rfl ?_
      refine own_ddiv X0 hx hby (hn15_1 hc1) rfl d7_15 (pc' := 16) rfl ?_
      refine own_goto X0 hx hby d7_16 (by decide) (pc' := 20) (by decide) ?_
      exact k'
    · simp only [if_neg hc1] at k'
      refine own_ifT X0 hx hby d7_4 (own_i0_le_n hc1) (by decide) (pc' := 19) (by decide) ?_
      refine own_dconst1 X0 hx hby (v := (4607182418800017408 : UInt64)) (by decide) d7_19 (pc' := 20) rfl ?_
      exact k'
  refine own_dstore X0 hx hby (L' := #[.val (.int (1 : Int32)), .val (.double f1), .second, .val (.ref o2), .val (.ref o3), .val (.ref o4), .val (.ref o5), .val (.double (if 0 < uc1 then (FP.ddiv ue1 (FP.i2d uc1)) else (4607182418800017408 : UInt64))), .second, .unset, .unset]) rfl d7_20 (pc' := 22) rfl ?_
  refine own_aload X0 hx hby rfl rfl d7_22 (pc' := 24) rfl ?_
  refine own_iloadN X0 hx hby rfl d7_24 (pc' := 25) rfl ?_
  refine own_iaload X0 hx hby hZ eH0 V_o5 (by decide) (v := (.int dc1)) rfl d7_25 (pc' := 26) rfl ?_
  refine own_join (S' := s₁.setTop (mkF m 43 #[.val (.int (1 : Int32)), .val (.double f1), .second, .val (.ref o2), .val (.ref o3), .val (.ref o4), .val (.ref o5), .val (.double (if 0 < uc1 then (FP.ddiv ue1 (FP.i2d uc1)) else (4607182418800017408 : UInt64))), .second, .unset, .unset] [(.double (if 0 < dc1 then (FP.ddiv de1 (FP.i2d dc1)) else (4607182418800017408 : UInt64)))])) (fun F' k' => ?_) ?_
  · revert k'; intro k'
    by_cases hc2 : 0 < dc1
    · simp only [if_pos hc2] at k'
      refine own_ifF X0 hx hby d7_26 (own_i0_le_p hc2) (pc' := 29) rfl ?_
      refine own_aload X0 hx hby rfl rfl d7_29 (pc' := 31) rfl ?_
      refine own_iloadN X0 hx hby rfl d7_31 (pc' := 32) rfl ?_
      refine own_daload X0 hx hby hZ eH0 V_o4 (by decide) (v := (.double de1)) rfl d7_32 (pc' := 33) rfl ?_
      refine own_aload X0 hx hby rfl rfl d7_33 (pc' := 35) rfl ?_
      refine own_iloadN X0 hx hby rfl d7_35 (pc' := 36) rfl ?_
      refine own_iaload X0 hx hby hZ eH0 V_o5 (by decide) (v := (.int dc1)) rfl d7_36 (pc' := 37) rfl ?_
      refine own_i2d X0 hx hby rfl d7_37 (pc' := 38) rfl ?_
      refine own_ddiv X0 hx hby (hn38_1 hc2) rfl d7_38 (pc' := 39) rfl ?_
      refine own_goto X0 hx hby d7_39 (by decide) (pc' := 43) (by decide) ?_
      exact k'
    · simp only [if_neg hc2] at k'
      refine own_ifT X0 hx hby d7_26 (own_i0_le_n hc2) (by decide) (pc' := 42) (by decide) ?_
      refine own_dconst1 X0 hx hby (v := (4607182418800017408 : UInt64)) (by decide) d7_42 (pc' := 43) rfl ?_
      exact k'
  refine own_dstore X0 hx hby (L' := #[.val (.int (1 : Int32)), .val (.double f1), .second, .val (.ref o2), .val (.ref o3), .val (.ref o4), .val (.ref o5), .val (.double (if 0 < uc1 then (FP.ddiv ue1 (FP.i2d uc1)) else (4607182418800017408 : UInt64))), .second, .val (.double (if 0 < dc1 then (FP.ddiv de1 (FP.i2d dc1)) else (4607182418800017408 : UInt64))), .second]) rfl d7_43 (pc' := 45) rfl ?_
  refine own_dload X0 hx hby rfl d7_45 (pc' := 47) rfl ?_
  refine own_dconst1 X0 hx hby (v := (4607182418800017408 : UInt64)) (by decide) d7_47 (pc' := 48) rfl ?_
  refine own_dloadN X0 hx hby rfl d7_48 (pc' := 49) rfl ?_
  refine own_dsub X0 hx hby hn49_1 rfl d7_49 (pc' := 50) rfl ?_
  refine own_dmul X0 hx hby hn50_1 rfl d7_50 (pc' := 51) rfl ?_
  refine own_dload X0 hx hby rfl d7_51 (pc' := 53) rfl ?_
  refine own_dloadN X0 hx hby rfl d7_53 (pc' := 54) rfl ?_
  refine own_dmul X0 hx hby hn54_1 rfl d7_54 (pc' := 55) rfl ?_
  refine own_dcmp X0 hx hby rfl d7_55 (pc' := 56) rfl ?_
  by_cases hc3 : dle (FP.dmul (if 0 < uc1 then (FP.ddiv ue1 (FP.i2d uc1)) else (4607182418800017408 : UInt64)) (FP.dsub (4607182418800017408 : UInt64) f1)) (FP.dmul (if 0 < dc1 then (FP.ddiv de1 (FP.i2d dc1)) else (4607182418800017408 : UInt64)) f1)
  · refine own_ifF X0 hx hby d7_56 (own_dg_gt_p hc3) (pc' := 59) rfl ?_
    refine own_iconst X0 hx hby (v := (1 : Int32)) (by decide) d7_59 (pc' := 60) rfl ?_
    refine own_goto X0 hx hby d7_60 (by decide) (pc' := 64) (by decide) ?_
    exact own_retZ X0 hx hby Bd.notSynchronized Bd.returns (Or.inr rfl) d7_64 (by decide) (by decide) eH0 ⟨(by rw [if_pos hc3]), N0, rfl⟩
  · refine own_ifT X0 hx hby d7_56 (own_dg_gt_n hc3) (by decide) (pc' := 63) (by decide) ?_
    refine own_iconst X0 hx hby (v := (0 : Int32)) (by decide) d7_63 (pc' := 64) rfl ?_
    exact own_retZ X0 hx hby Bd.notSynchronized Bd.returns (Or.inl rfl) d7_64 (by decide) (by decide) eH0 ⟨(by rw [if_neg hc3]), N0, rfl⟩
theorem ef0 (m : MethodId) (x0 : Int32) (x1 : Int32) (x2 : Int32) (x3 : Int32) (x4 : Int32) : entryFrame m #[(.int x0), (.int x1), (.int x2), (.int x3), (.int x4)] maxLocals = mkF m 0 #[.val (.int x0), .val (.int x1), .val (.int x2), .val (.int x3), .val (.int x4), .unset, .unset, .unset, .unset, .unset, .unset, .unset, .unset, .unset, .unset, .unset, .unset, .unset, .unset, .unset, .unset, .unset, .unset, .unset] [] := by first | (simp [entryFrame, mkF, argsToLocals, Value.category, maxLocals]; done) | rfl
def Q0 (Z : State) (p0 : Int32) (p1 : Int32) (p2 : Int32) (p3 : Int32) (p4 : Int32) (h0 : Heap) (n0 : Nat) (v : Option Value) (h : Heap) (L : List Loc) : Prop := v = some (.int 1) ∧ Fr n0 L
set_option maxRecDepth 65536 in
set_option maxHeartbeats 40000000 in
theorem rm0 (l : Launch) (Z : State) (a0 : Array Value) (hw : ∀ d ∈ tables_1, d.before a0 Z = true) (ws : List Jvm.Cond) (p0 : Int32) (p1 : Int32) (p2 : Int32) (p3 : Int32) (p4 : Int32) (h0 : Heap) (n0 : Nat) (Z0 : n0 ≤ h0.size) :
    MetFree l x (head1 (Jvm.Cond.code x code maxLocals ret :: ws) room_1) (fun a U => a = #[(.int p0), (.int p1), (.int p2), (.int p3), (.int p4)] ∧ Z.Warmed39 U.vm ∧ U.heap = h0) (fun _ _ _ _ _ => True) (fun _ U o U' => ∃ v L, o = .returned v ∧ Q0 Z p0 p1 p2 p3 p4 h0 n0 v U'.heap L ∧ FrameEnd U o U' L 32 128) := by
  refine MetFree.of_bodySF (plainFor_of_name pn_com_example_bidfold_bidfold_BranchingLearnPinLaw) hisR ?_
  intro p e s m args below meth c s₁ Bd hml0 hP hK
  obtain ⟨rfl, hZ, hh⟩ := hP
  have hx := Bd.exec
  have hby := Bd.bytes
  have hml : c.maxLocals = 24 := hml0
  have hown : s.vm.findClass "com/example/bidfold/bidfold/BranchingLearnPinLaw" = some m.cls := findClass_of_methodNamed Bd.named
  have hnm := (name_of_methodNamed Bd.named Bd.method).1
  have X0 : Stand p l e room_1 s m #[(.int p0), (.int p1), (.int p2), (.int p3), (.int p4)] below meth c s₁ [] 0 0 := Stand.of_body Bd
  have eH0 : s₁.heap = h0 := by rw [← hh, Bd.state]; rfl
  have N0 := Fr.nil n0
  show Gt p.tables e below (fun o U' => ∃ v L, o = .returned v ∧ Q0 Z p0 p1 p2 p3 p4 h0 n0 v U'.heap L ∧ FrameEnd s o U' L 32 128) _
  refine own_cast (ef0 m p0 p1 p2 p3 p4) ?_
  refine own_iloadN X0 hx hby rfl at_0 (pc' := 1) rfl ?_
  refine own_iconst X0 hx hby (v := (1 : Int32)) (by decide) at_1 (pc' := 2) rfl ?_
  refine own_iand X0 hx hby rfl at_2 (pc' := 3) rfl ?_
  generalize q_n1 : (p0 &&& (1 : Int32)) = n1
  refine own_istore X0 hx hby (L' := #[.val (.int p0), .val (.int p1), .val (.int p2), .val (.int p3), .val (.int p4), .val (.int n1), .unset, .unset, .unset, .unset, .unset, .unset, .unset, .unset, .unset, .unset, .unset, .unset, .unset, .unset, .unset, .unset, .unset, .unset]) rfl at_3 (pc' := 5) rfl ?_
  refine own_iloadN X0 hx hby rfl at_5 (pc' := 6) rfl ?_
  refine own_iconst X0 hx hby (v := (2 : Int32)) (by decide) at_6 (pc' := 7) rfl ?_
  refine own_iand X0 hx hby rfl at_7 (pc' := 8) rfl ?_
  obtain ⟨w2, q_w2⟩ : ∃ z : Int32, (if (p0 &&& (2 : Int32)) = 0 then (0 : Int32) else (1 : Int32)) = z := ⟨_, rfl⟩
  refine own_join (S' := s₁.setTop (mkF m 16 #[.val (.int p0), .val (.int p1), .val (.int p2), .val (.int p3), .val (.int p4), .val (.int n1), .unset, .unset, .unset, .unset, .unset, .unset, .unset, .unset, .unset, .unset, .unset, .unset, .unset, .unset, .unset, .unset, .unset, .unset] [(.int w2)])) (fun F' k' => ?_) ?_
  · rw [← q_w2] at k'
    by_cases hc3 : (p0 &&& (2 : Int32)) = 0
    · simp only [if_pos hc3] at k'
      refine own_ifT X0 hx hby at_8 (own_i0_eq_p hc3) (by decide) (pc' := 15) (by decide) ?_
      refine own_iconst X0 hx hby (v := (0 : Int32)) (by decide) at_15 (pc' := 16) rfl ?_
      exact k'
    · simp only [if_neg hc3] at k'
      refine own_ifF X0 hx hby at_8 (own_i0_eq_n hc3) (pc' := 11) rfl ?_
      refine own_iconst X0 hx hby (v := (1 : Int32)) (by decide) at_11 (pc' := 12) rfl ?_
      refine own_goto X0 hx hby at_12 (by decide) (pc' := 16) (by decide) ?_
      exact k'
  refine own_istore X0 hx hby (L' := #[.val (.int p0), .val (.int p1), .val (.int p2), .val (.int p3), .val (.int p4), .val (.int n1), .val (.int w2), .unset, .unset, .unset, .unset, .unset, .unset, .unset, .unset, .unset, .unset, .unset, .unset, .unset, .unset, .unset, .unset, .unset]) rfl at_16 (pc' := 18) rfl ?_
  refine own_iloadN X0 hx hby rfl at_18 (pc' := 19) rfl ?_
  refine own_iconst X0 hx hby (v := (2 : Int32)) (by decide) at_19 (pc' := 20) rfl ?_
  refine own_ishr X0 hx hby rfl at_20 (pc' := 21) rfl ?_
  refine own_ldcI X0 hx hby hZ hown (hw _ (List.mem_of_getElem? (i := 0) rfl)) at_21 (pc' := 23) rfl ?_
  refine own_iand X0 hx hby rfl at_23 (pc' := 24) rfl ?_
  refine own_ldcI X0 hx hby hZ hown (hw _ (List.mem_of_getElem? (i := 1) rfl)) at_24 (pc' := 26) rfl ?_
  refine own_isub X0 hx hby rfl at_26 (pc' := 27) rfl ?_
  obtain ⟨v4, q_v4⟩ : ∃ z : UInt64, (FP.i2d (((p0 >>> ((2 : Int32) &&& 31)) &&& (2097151 : Int32)) - (524288 : Int32))) = z := ⟨_, rfl⟩
  have D_v4 : Dy v4 (((p0 >>> ((2 : Int32) &&& 31)) &&& (2097151 : Int32)) - (524288 : Int32)).toInt 0 := q_v4 ▸ dy_i2d (((p0 >>> ((2 : Int32) &&& 31)) &&& (2097151 : Int32)) - (524288 : Int32))
  refine own_i2d X0 hx hby q_v4 at_27 (pc' := 28) rfl ?_
  refine own_ldc2D X0 hx hby hZ hown (hw _ (List.mem_of_getElem? (i := 2) rfl)) at_28 (pc' := 31) rfl ?_
  obtain ⟨v5, q_v5⟩ : ∃ z : UInt64, (FP.ddiv v4 (4697254411347427328 : UInt64)) = z := ⟨_, rfl⟩
  have R_v5 := own_vr (p0 >>> ((2 : Int32) &&& 31))
  have D_v5 : Dy v5 (((p0 >>> ((2 : Int32) &&& 31)) &&& (2097151 : Int32)) - (524288 : Int32)).toInt 20 := q_v5 ▸ Dy.div D_v4 own_c4697254411347427328 (by omega) (by rw [show ((2 ^ (0 + 20) : Nat) : Int) = 1048576 from rfl, show ((2 ^ 0 : Nat) : Int) = 1 from rfl]; omega) (by omega) (by omega)
  have nn_v5 := D_v5.nn
  refine own_ddiv X0 hx hby (by rw [q_v5]; exact nn_v5) q_v5 at_31 (pc' := 32) rfl ?_
  refine own_dstore X0 hx hby (L' := #[.val (.int p0), .val (.int p1), .val (.int p2), .val (.int p3), .val (.int p4), .val (.int n1), .val (.int w2), .val (.double v5), .second, .unset, .unset, .unset, .unset, .unset, .unset, .unset, .unset, .unset, .unset, .unset, .unset, .unset, .unset, .unset]) rfl at_32 (pc' := 34) rfl ?_
  refine own_iloadN X0 hx hby rfl at_34 (pc' := 35) rfl ?_
  refine own_ldcI X0 hx hby hZ hown (hw _ (List.mem_of_getElem? (i := 3) rfl)) at_35 (pc' := 37) rfl ?_
  refine own_iand X0 hx hby rfl at_37 (pc' := 38) rfl ?_
  obtain ⟨v6, q_v6⟩ : ∃ z : UInt64, (FP.i2d (p1 &&& (1048575 : Int32))) = z := ⟨_, rfl⟩
  have D_v6 : Dy v6 (p1 &&& (1048575 : Int32)).toInt 0 := q_v6 ▸ dy_i2d (p1 &&& (1048575 : Int32))
  refine own_i2d X0 hx hby q_v6 at_38 (pc' := 39) rfl ?_
  refine own_dstore X0 hx hby (L' := #[.val (.int p0), .val (.int p1), .val (.int p2), .val (.int p3), .val (.int p4), .val (.int n1), .val (.int w2), .val (.double v5), .second, .val (.double v6), .second, .unset, .unset, .unset, .unset, .unset, .unset, .unset, .unset, .unset, .unset, .unset, .unset, .unset]) rfl at_39 (pc' := 41) rfl ?_
  refine own_iloadN X0 hx hby rfl at_41 (pc' := 42) rfl ?_
  refine own_iconst X0 hx hby (v := (1 : Int32)) (by decide) at_42 (pc' := 43) rfl ?_
  refine own_iand X0 hx hby rfl at_43 (pc' := 44) rfl ?_
  generalize q_n7 : (p2 &&& (1 : Int32)) = n7
  refine own_istore X0 hx hby (L' := #[.val (.int p0), .val (.int p1), .val (.int p2), .val (.int p3), .val (.int p4), .val (.int n1), .val (.int w2), .val (.double v5), .second, .val (.double v6), .second, .val (.int n7), .unset, .unset, .unset, .unset, .unset, .unset, .unset, .unset, .unset, .unset, .unset, .unset]) rfl at_44 (pc' := 46) rfl ?_
  refine own_iloadN X0 hx hby rfl at_46 (pc' := 47) rfl ?_
  refine own_iconst X0 hx hby (v := (2 : Int32)) (by decide) at_47 (pc' := 48) rfl ?_
  refine own_iand X0 hx hby rfl at_48 (pc' := 49) rfl ?_
  obtain ⟨w8, q_w8⟩ : ∃ z : Int32, (if (p2 &&& (2 : Int32)) = 0 then (0 : Int32) else (1 : Int32)) = z := ⟨_, rfl⟩
  refine own_join (S' := s₁.setTop (mkF m 57 #[.val (.int p0), .val (.int p1), .val (.int p2), .val (.int p3), .val (.int p4), .val (.int n1), .val (.int w2), .val (.double v5), .second, .val (.double v6), .second, .val (.int n7), .unset, .unset, .unset, .unset, .unset, .unset, .unset, .unset, .unset, .unset, .unset, .unset] [(.int w8)])) (fun F' k' => ?_) ?_
  · rw [← q_w8] at k'
    by_cases hc9 : (p2 &&& (2 : Int32)) = 0
    · simp only [if_pos hc9] at k'
      refine own_ifT X0 hx hby at_49 (own_i0_eq_p hc9) (by decide) (pc' := 56) (by decide) ?_
      refine own_iconst X0 hx hby (v := (0 : Int32)) (by decide) at_56 (pc' := 57) rfl ?_
      exact k'
    · simp only [if_neg hc9] at k'
      refine own_ifF X0 hx hby at_49 (own_i0_eq_n hc9) (pc' := 52) rfl ?_
      refine own_iconst X0 hx hby (v := (1 : Int32)) (by decide) at_52 (pc' := 53) rfl ?_
      refine own_goto X0 hx hby at_53 (by decide) (pc' := 57) (by decide) ?_
      exact k'
  refine own_istore X0 hx hby (L' := #[.val (.int p0), .val (.int p1), .val (.int p2), .val (.int p3), .val (.int p4), .val (.int n1), .val (.int w2), .val (.double v5), .second, .val (.double v6), .second, .val (.int n7), .val (.int w8), .unset, .unset, .unset, .unset, .unset, .unset, .unset, .unset, .unset, .unset, .unset]) rfl at_57 (pc' := 59) rfl ?_
  refine own_iloadN X0 hx hby rfl at_59 (pc' := 60) rfl ?_
  refine own_iconst X0 hx hby (v := (2 : Int32)) (by decide) at_60 (pc' := 61) rfl ?_
  refine own_ishr X0 hx hby rfl at_61 (pc' := 62) rfl ?_
  refine own_ldcI X0 hx hby hZ hown (hw _ (List.mem_of_getElem? (i := 0) rfl)) at_62 (pc' := 64) rfl ?_
  refine own_iand X0 hx hby rfl at_64 (pc' := 65) rfl ?_
  refine own_ldcI X0 hx hby hZ hown (hw _ (List.mem_of_getElem? (i := 1) rfl)) at_65 (pc' := 67) rfl ?_
  refine own_isub X0 hx hby rfl at_67 (pc' := 68) rfl ?_
  obtain ⟨v10, q_v10⟩ : ∃ z : UInt64, (FP.i2d (((p2 >>> ((2 : Int32) &&& 31)) &&& (2097151 : Int32)) - (524288 : Int32))) = z := ⟨_, rfl⟩
  have D_v10 : Dy v10 (((p2 >>> ((2 : Int32) &&& 31)) &&& (2097151 : Int32)) - (524288 : Int32)).toInt 0 := q_v10 ▸ dy_i2d (((p2 >>> ((2 : Int32) &&& 31)) &&& (2097151 : Int32)) - (524288 : Int32))
  refine own_i2d X0 hx hby q_v10 at_68 (pc' := 69) rfl ?_
  refine own_ldc2D X0 hx hby hZ hown (hw _ (List.mem_of_getElem? (i := 2) rfl)) at_69 (pc' := 72) rfl ?_
  obtain ⟨v11, q_v11⟩ : ∃ z : UInt64, (FP.ddiv v10 (4697254411347427328 : UInt64)) = z := ⟨_, rfl⟩
  have R_v11 := own_vr (p2 >>> ((2 : Int32) &&& 31))
  have D_v11 : Dy v11 (((p2 >>> ((2 : Int32) &&& 31)) &&& (2097151 : Int32)) - (524288 : Int32)).toInt 20 := q_v11 ▸ Dy.div D_v10 own_c4697254411347427328 (by omega) (by rw [show ((2 ^ (0 + 20) : Nat) : Int) = 1048576 from rfl, show ((2 ^ 0 : Nat) : Int) = 1 from rfl]; omega) (by omega) (by omega)
  have nn_v11 := D_v11.nn
  refine own_ddiv X0 hx hby (by rw [q_v11]; exact nn_v11) q_v11 at_72 (pc' := 73) rfl ?_
  refine own_dstore X0 hx hby (L' := #[.val (.int p0), .val (.int p1), .val (.int p2), .val (.int p3), .val (.int p4), .val (.int n1), .val (.int w2), .val (.double v5), .second, .val (.double v6), .second, .val (.int n7), .val (.int w8), .val (.double v11), .second, .unset, .unset, .unset, .unset, .unset, .unset, .unset, .unset, .unset]) rfl at_73 (pc' := 75) rfl ?_
  refine own_iloadN X0 hx hby rfl at_75 (pc' := 76) rfl ?_
  refine own_ldcI X0 hx hby hZ hown (hw _ (List.mem_of_getElem? (i := 3) rfl)) at_76 (pc' := 78) rfl ?_
  refine own_iand X0 hx hby rfl at_78 (pc' := 79) rfl ?_
  obtain ⟨v12, q_v12⟩ : ∃ z : UInt64, (FP.i2d (p3 &&& (1048575 : Int32))) = z := ⟨_, rfl⟩
  have D_v12 : Dy v12 (p3 &&& (1048575 : Int32)).toInt 0 := q_v12 ▸ dy_i2d (p3 &&& (1048575 : Int32))
  refine own_i2d X0 hx hby q_v12 at_79 (pc' := 80) rfl ?_
  refine own_dstore X0 hx hby (L' := #[.val (.int p0), .val (.int p1), .val (.int p2), .val (.int p3), .val (.int p4), .val (.int n1), .val (.int w2), .val (.double v5), .second, .val (.double v6), .second, .val (.int n7), .val (.int w8), .val (.double v11), .second, .val (.double v12), .second, .unset, .unset, .unset, .unset, .unset, .unset, .unset]) rfl at_80 (pc' := 82) rfl ?_
  refine own_iload X0 hx hby rfl at_82 (pc' := 84) rfl ?_
  refine own_ldcI X0 hx hby hZ hown (hw _ (List.mem_of_getElem? (i := 4) rfl)) at_84 (pc' := 86) rfl ?_
  refine own_iand X0 hx hby rfl at_86 (pc' := 87) rfl ?_
  obtain ⟨v13, q_v13⟩ : ∃ z : UInt64, (FP.i2d (p4 &&& (65535 : Int32))) = z := ⟨_, rfl⟩
  have D_v13 : Dy v13 (p4 &&& (65535 : Int32)).toInt 0 := q_v13 ▸ dy_i2d (p4 &&& (65535 : Int32))
  refine own_i2d X0 hx hby q_v13 at_87 (pc' := 88) rfl ?_
  refine own_ldc2D X0 hx hby hZ hown (hw _ (List.mem_of_getElem? (i := 5) rfl)) at_88 (pc' := 91) rfl ?_
  obtain ⟨v14, q_v14⟩ : ∃ z : UInt64, (FP.ddiv v13 (4679239875398991872 : UInt64)) = z := ⟨_, rfl⟩
  have P0 : Bn v14 0 := q_v14 ▸ own_pp D_v13 (own_pr _)
  have nn_v14 := P0.nn
  have P1 := own_p1 P0
  refine own_ddiv X0 hx hby (by rw [q_v14]; exact nn_v14) q_v14 at_91 (pc' := 92) rfl ?_
  refine own_dstore X0 hx hby (L' := #[.val (.int p0), .val (.int p1), .val (.int p2), .val (.int p3), .val (.int p4), .val (.int n1), .val (.int w2), .val (.double v5), .second, .val (.double v6), .second, .val (.int n7), .val (.int w8), .val (.double v11), .second, .val (.double v12), .second, .val (.double v14), .second, .unset, .unset, .unset, .unset, .unset]) rfl at_92 (pc' := 94) rfl ?_
  refine own_iconst X0 hx hby (v := (2 : Int32)) (by decide) at_94 (pc' := 95) rfl ?_
  refine own_newP X0 hx hby hZ (hw _ (List.mem_of_getElem? (i := 6) rfl)) eH0 at_95 (pc' := 97) rfl (by decide) (N := 2) (by decide) (cap := 2) (by decide) (by decide) (by decide) (by decide) (ad := "[D") (by decide) (fun T15 h15 b15 X15 eH15 E15 g15 E_b15 V_b15 => ?_)
  have g_b15 : n0 ≤ b15 := g15 ▸ Z0
  replace Z0 := Nat.le_trans Z0 E15.1
  have V_b15 : Ary tr Z h15 b15 .double [(.double (0 : UInt64)), (.double (0 : UInt64))] := V_b15
  refine own_astore X15 hx hby rfl (L' := #[.val (.int p0), .val (.int p1), .val (.int p2), .val (.int p3), .val (.int p4), .val (.int n1), .val (.int w2), .val (.double v5), .second, .val (.double v6), .second, .val (.int n7), .val (.int w8), .val (.double v11), .second, .val (.double v12), .second, .val (.double v14), .second, .val (.ref b15), .unset, .unset, .unset, .unset]) rfl at_97 (pc' := 99) rfl ?_
  refine own_iconst X15 hx hby (v := (2 : Int32)) (by decide) at_99 (pc' := 100) rfl ?_
  refine own_newP X15 hx hby hZ (hw _ (List.mem_of_getElem? (i := 7) rfl)) eH15 at_100 (pc' := 102) rfl (by decide) (N := 2) (by decide) (cap := 2) (by decide) (by decide) (by decide) (by decide) (ad := "[I") (by decide) (fun T16 h16 b16 X16 eH16 E16 g16 E_b16 V_b16 => ?_)
  have g_b16 : n0 ≤ b16 := g16 ▸ Z0
  have ne_b15_b16 : b15 ≠ b16 := Nat.ne_of_lt (g16 ▸ E_b15.lt)
  replace E_b15 := E_b15.ext E16
  replace V_b15 := V_b15.ext E16
  replace Z0 := Nat.le_trans Z0 E16.1
  have V_b16 : Ary tr Z h16 b16 .int [(.int (0 : Int32)), (.int (0 : Int32))] := V_b16
  refine own_astore X16 hx hby rfl (L' := #[.val (.int p0), .val (.int p1), .val (.int p2), .val (.int p3), .val (.int p4), .val (.int n1), .val (.int w2), .val (.double v5), .second, .val (.double v6), .second, .val (.int n7), .val (.int w8), .val (.double v11), .second, .val (.double v12), .second, .val (.double v14), .second, .val (.ref b15), .val (.ref b16), .unset, .unset, .unset]) rfl at_102 (pc' := 104) rfl ?_
  refine own_iconst X16 hx hby (v := (2 : Int32)) (by decide) at_104 (pc' := 105) rfl ?_
  refine own_newP X16 hx hby hZ (hw _ (List.mem_of_getElem? (i := 6) rfl)) eH16 at_105 (pc' := 107) rfl (by decide) (N := 2) (by decide) (cap := 2) (by decide) (by decide) (by decide) (by decide) (ad := "[D") (by decide) (fun T17 h17 b17 X17 eH17 E17 g17 E_b17 V_b17 => ?_)
  have g_b17 : n0 ≤ b17 := g17 ▸ Z0
  have ne_b15_b17 : b15 ≠ b17 := Nat.ne_of_lt (g17 ▸ E_b15.lt)
  have ne_b16_b17 : b16 ≠ b17 := Nat.ne_of_lt (g17 ▸ E_b16.lt)
  replace E_b15 := E_b15.ext E17
  replace V_b15 := V_b15.ext E17
  replace E_b16 := E_b16.ext E17
  replace V_b16 := V_b16.ext E17
  replace Z0 := Nat.le_trans Z0 E17.1
  have V_b17 : Ary tr Z h17 b17 .double [(.double (0 : UInt64)), (.double (0 : UInt64))] := V_b17
  refine own_astore X17 hx hby rfl (L' := #[.val (.int p0), .val (.int p1), .val (.int p2), .val (.int p3), .val (.int p4), .val (.int n1), .val (.int w2), .val (.double v5), .second, .val (.double v6), .second, .val (.int n7), .val (.int w8), .val (.double v11), .second, .val (.double v12), .second, .val (.double v14), .second, .val (.ref b15), .val (.ref b16), .val (.ref b17), .unset, .unset]) rfl at_107 (pc' := 109) rfl ?_
  refine own_iconst X17 hx hby (v := (2 : Int32)) (by decide) at_109 (pc' := 110) rfl ?_
  refine own_newP X17 hx hby hZ (hw _ (List.mem_of_getElem? (i := 7) rfl)) eH17 at_110 (pc' := 112) rfl (by decide) (N := 2) (by decide) (cap := 2) (by decide) (by decide) (by decide) (by decide) (ad := "[I") (by decide) (fun T18 h18 b18 X18 eH18 E18 g18 E_b18 V_b18 => ?_)
  have g_b18 : n0 ≤ b18 := g18 ▸ Z0
  have ne_b15_b18 : b15 ≠ b18 := Nat.ne_of_lt (g18 ▸ E_b15.lt)
  have ne_b16_b18 : b16 ≠ b18 := Nat.ne_of_lt (g18 ▸ E_b16.lt)
  have ne_b17_b18 : b17 ≠ b18 := Nat.ne_of_lt (g18 ▸ E_b17.lt)
  replace E_b15 := E_b15.ext E18
  replace V_b15 := V_b15.ext E18
  replace E_b16 := E_b16.ext E18
  replace V_b16 := V_b16.ext E18
  replace E_b17 := E_b17.ext E18
  replace V_b17 := V_b17.ext E18
  replace Z0 := Nat.le_trans Z0 E18.1
  have V_b18 : Ary tr Z h18 b18 .int [(.int (0 : Int32)), (.int (0 : Int32))] := V_b18
  refine own_astore X18 hx hby rfl (L' := #[.val (.int p0), .val (.int p1), .val (.int p2), .val (.int p3), .val (.int p4), .val (.int n1), .val (.int w2), .val (.double v5), .second, .val (.double v6), .second, .val (.int n7), .val (.int w8), .val (.double v11), .second, .val (.double v12), .second, .val (.double v14), .second, .val (.ref b15), .val (.ref b16), .val (.ref b17), .val (.ref b18), .unset]) rfl at_112 (pc' := 114) rfl ?_
  refine own_newO X18 hx hby hZ hown (hw _ (List.mem_of_getElem? (i := 8) rfl)) (hw _ (List.mem_of_getElem? (i := 9) rfl)) (hw _ (List.mem_of_getElem? (i := 10) rfl)) eH18 at_114 (pc' := 117) rfl (by decide) (by decide) (fun T19 h19 b19 X19 eH19 E19 g19 E_b19 D19 => ?_)
  have g_b19 : n0 ≤ b19 := g19 ▸ Z0
  have ne_b15_b19 : b15 ≠ b19 := Nat.ne_of_lt (g19 ▸ E_b15.lt)
  have ne_b16_b19 : b16 ≠ b19 := Nat.ne_of_lt (g19 ▸ E_b16.lt)
  have ne_b17_b19 : b17 ≠ b19 := Nat.ne_of_lt (g19 ▸ E_b17.lt)
  have ne_b18_b19 : b18 ≠ b19 := Nat.ne_of_lt (g19 ▸ E_b18.lt)
  replace E_b15 := E_b15.ext E19
  replace V_b15 := V_b15.ext E19
  replace E_b16 := E_b16.ext E19
  replace V_b16 := V_b16.ext E19
  replace E_b17 := E_b17.ext E19
  replace V_b17 := V_b17.ext E19
  replace E_b18 := E_b18.ext E19
  replace V_b18 := V_b18.ext E19
  replace Z0 := Nat.le_trans Z0 E19.1
  have F_b19_count : Fld Z h19 b19 "com/example/bidfold/bidfold/Branching" "count" "I" (.int (0 : Int32)) := D19 (Or.inr (hw _ (List.mem_of_getElem? (i := 18) rfl))) (ty := .int) (by decide)
  have F_b19_least : Fld Z h19 b19 "com/example/bidfold/bidfold/Branching" "least" "J" (.long (0 : Int64)) := D19 (Or.inr (hw _ (List.mem_of_getElem? (i := 20) rfl))) (ty := .long) (by decide)
  have F_b19_downFalls : Fld Z h19 b19 "com/example/bidfold/bidfold/Branching" "downFalls" "[D" .null := D19 (Or.inr (hw _ (List.mem_of_getElem? (i := 22) rfl))) (ty := (.array .double)) (by decide)
  have F_b19_downCounts : Fld Z h19 b19 "com/example/bidfold/bidfold/Branching" "downCounts" "[I" .null := D19 (Or.inr (hw _ (List.mem_of_getElem? (i := 24) rfl))) (ty := (.array .int)) (by decide)
  have F_b19_upFalls : Fld Z h19 b19 "com/example/bidfold/bidfold/Branching" "upFalls" "[D" .null := D19 (Or.inr (hw _ (List.mem_of_getElem? (i := 26) rfl))) (ty := (.array .double)) (by decide)
  have F_b19_upCounts : Fld Z h19 b19 "com/example/bidfold/bidfold/Branching" "upCounts" "[I" .null := D19 (Or.inr (hw _ (List.mem_of_getElem? (i := 28) rfl))) (ty := (.array .int)) (by decide)
  have F_b19_branchable : Fld Z h19 b19 "com/example/bidfold/bidfold/Branching" "branchable" "[I" .null := D19 (Or.inr (hw _ (List.mem_of_getElem? (i := 30) rfl))) (ty := (.array .int)) (by decide)
  refine own_dup X19 hx hby rfl at_117 (pc' := 118) rfl ?_
  refine own_iconst X19 hx hby (v := (2 : Int32)) (by decide) at_118 (pc' := 119) rfl ?_
  refine own_lconst X19 hx hby (v := (1 : Int64)) (by decide) at_119 (pc' := 120) rfl ?_
  refine own_special X19 hx hby hZ (y := (⟨"com/example/bidfold/bidfold/Branching", "<init>", "(IJ)V"⟩ : MethodName)) (rest := [(.ref b19)]) rfl hown (hw _ (List.mem_of_getElem? (i := 11) rfl)) (hw _ (List.mem_of_getElem? (i := 12) rfl)) rfl (hw _ (List.mem_of_getElem? (i := 13) rfl)) (hw _ (List.mem_of_getElem? (i := 10) rfl)) (by decide) (rm1 l Z a0 hw [] b19 (1 : Int64) (0 : Int32) (0 : Int64) .null .null .null .null .null h19 n0 Z0 F_b19_count F_b19_least F_b19_downFalls F_b19_downCounts F_b19_upFalls F_b19_upCounts F_b19_branchable E_b19 g_b19) eH19 (by rw [hml]; rfl) (a := b19) (argsL := [(.int (2 : Int32)), (.long (1 : Int64))]) rfl (lenOf pd_1 rfl) rfl at_120 (pc' := 123) rfl (by decide) (W := 1) (Nat.le_of_eq rfl) (by decide) (by decide) (by decide) (fun T20 h20 Lc20 v20r X20 eH20 hQ20 => ?_)
  obtain ⟨b4_20, b6_20, b8_20, b10_20, rfl, Nq20, Kq20, gq20_0, gq20_1, gq20_2, gq20_3, gq20_4, gq20_5, gq20_6, gq20_7, gq20_8, gq20_9, gq20_10, gq20_11, gq20_12, gq20_13, gq20_14, gq20_15, gq20_16, gq20_17, gq20_18, gq20_19, gq20_20, gq20_21, gq20_22⟩ := hQ20
  have N20 := Fr.app N0 Nq20
  have g_b4_20 : n0 ≤ b4_20 := Nat.le_trans Z0 gq20_0
  have ne_b15_b4_20 : b15 ≠ b4_20 := Nat.ne_of_lt (Nat.lt_of_lt_of_le E_b15.lt gq20_0)
  have ne_b16_b4_20 : b16 ≠ b4_20 := Nat.ne_of_lt (Nat.lt_of_lt_of_le E_b16.lt gq20_0)
  have ne_b17_b4_20 : b17 ≠ b4_20 := Nat.ne_of_lt (Nat.lt_of_lt_of_le E_b17.lt gq20_0)
  have ne_b18_b4_20 : b18 ≠ b4_20 := Nat.ne_of_lt (Nat.lt_of_lt_of_le E_b18.lt gq20_0)
  have ne_b19_b4_20 : b19 ≠ b4_20 := Nat.ne_of_lt (Nat.lt_of_lt_of_le E_b19.lt gq20_0)
  have g_b6_20 : n0 ≤ b6_20 := Nat.le_trans Z0 gq20_1
  have ne_b15_b6_20 : b15 ≠ b6_20 := Nat.ne_of_lt (Nat.lt_of_lt_of_le E_b15.lt gq20_1)
  have ne_b16_b6_20 : b16 ≠ b6_20 := Nat.ne_of_lt (Nat.lt_of_lt_of_le E_b16.lt gq20_1)
  have ne_b17_b6_20 : b17 ≠ b6_20 := Nat.ne_of_lt (Nat.lt_of_lt_of_le E_b17.lt gq20_1)
  have ne_b18_b6_20 : b18 ≠ b6_20 := Nat.ne_of_lt (Nat.lt_of_lt_of_le E_b18.lt gq20_1)
  have ne_b19_b6_20 : b19 ≠ b6_20 := Nat.ne_of_lt (Nat.lt_of_lt_of_le E_b19.lt gq20_1)
  have g_b8_20 : n0 ≤ b8_20 := Nat.le_trans Z0 gq20_2
  have ne_b15_b8_20 : b15 ≠ b8_20 := Nat.ne_of_lt (Nat.lt_of_lt_of_le E_b15.lt gq20_2)
  have ne_b16_b8_20 : b16 ≠ b8_20 := Nat.ne_of_lt (Nat.lt_of_lt_of_le E_b16.lt gq20_2)
  have ne_b17_b8_20 : b17 ≠ b8_20 := Nat.ne_of_lt (Nat.lt_of_lt_of_le E_b17.lt gq20_2)
  have ne_b18_b8_20 : b18 ≠ b8_20 := Nat.ne_of_lt (Nat.lt_of_lt_of_le E_b18.lt gq20_2)
  have ne_b19_b8_20 : b19 ≠ b8_20 := Nat.ne_of_lt (Nat.lt_of_lt_of_le E_b19.lt gq20_2)
  have g_b10_20 : n0 ≤ b10_20 := Nat.le_trans Z0 gq20_3
  have ne_b15_b10_20 : b15 ≠ b10_20 := Nat.ne_of_lt (Nat.lt_of_lt_of_le E_b15.lt gq20_3)
  have ne_b16_b10_20 : b16 ≠ b10_20 := Nat.ne_of_lt (Nat.lt_of_lt_of_le E_b16.lt gq20_3)
  have ne_b17_b10_20 : b17 ≠ b10_20 := Nat.ne_of_lt (Nat.lt_of_lt_of_le E_b17.lt gq20_3)
  have ne_b18_b10_20 : b18 ≠ b10_20 := Nat.ne_of_lt (Nat.lt_of_lt_of_le E_b18.lt gq20_3)
  have ne_b19_b10_20 : b19 ≠ b10_20 := Nat.ne_of_lt (Nat.lt_of_lt_of_le E_b19.lt gq20_3)
  replace E_b15 := E_b15.keep Kq20
  replace V_b15 := V_b15.keep Kq20 (ninS ne_b15_b19 nin0)
  replace E_b16 := E_b16.keep Kq20
  replace V_b16 := V_b16.keep Kq20 (ninS ne_b16_b19 nin0)
  replace E_b17 := E_b17.keep Kq20
  replace V_b17 := V_b17.keep Kq20 (ninS ne_b17_b19 nin0)
  replace E_b18 := E_b18.keep Kq20
  replace V_b18 := V_b18.keep Kq20 (ninS ne_b18_b19 nin0)
  replace E_b19 := E_b19.keep Kq20
  have ne_b4_20_b6_20 := gq20_4
  have ne_b4_20_b8_20 := gq20_5
  have ne_b4_20_b10_20 := gq20_6
  have ne_b6_20_b8_20 := gq20_7
  have ne_b6_20_b10_20 := gq20_8
  have ne_b8_20_b10_20 := gq20_9
  have E_b19 := gq20_10
  have F_b19_downFalls := gq20_11
  have F_b19_downCounts := gq20_12
  have F_b19_upFalls := gq20_13
  have F_b19_upCounts := gq20_14
  have E_b4_20 := gq20_15
  have V_b4_20 := gq20_16
  have E_b6_20 := gq20_17
  have V_b6_20 := gq20_18
  have E_b8_20 := gq20_19
  have V_b8_20 := gq20_20
  have E_b10_20 := gq20_21
  have V_b10_20 := gq20_22
  replace Z0 := Nat.le_trans Z0 Kq20.1
  refine own_astore X20 hx hby rfl (L' := #[.val (.int p0), .val (.int p1), .val (.int p2), .val (.int p3), .val (.int p4), .val (.int n1), .val (.int w2), .val (.double v5), .second, .val (.double v6), .second, .val (.int n7), .val (.int w8), .val (.double v11), .second, .val (.double v12), .second, .val (.double v14), .second, .val (.ref b15), .val (.ref b16), .val (.ref b17), .val (.ref b18), .val (.ref b19)]) rfl at_123 (pc' := 125) rfl ?_
  rcases own_bit q_n1 with rfl | rfl
  · refine own_aload X20 hx hby rfl rfl at_125 (pc' := 127) rfl ?_
    rcases own_ite01 q_w2 with rfl | rfl
    · refine own_iload X20 hx hby rfl at_127 (pc' := 129) rfl ?_
      refine own_iload X20 hx hby rfl at_129 (pc' := 131) rfl ?_
      refine own_dload X20 hx hby rfl at_131 (pc' := 133) rfl ?_
      refine own_dload X20 hx hby rfl at_133 (pc' := 135) rfl ?_
      refine own_virtual X20 hx hby hZ (y := (⟨"com/example/bidfold/bidfold/Branching", "learn", "(IZDD)V"⟩ : MethodName)) (y' := (⟨"com/example/bidfold/bidfold/Branching", "learn", "(IZDD)V"⟩ : MethodName)) (C := "com/example/bidfold/bidfold/Branching") (rest := []) hown (hw _ (List.mem_of_getElem? (i := 31) rfl)) (hw _ (List.mem_of_getElem? (i := 32) rfl)) (notFace_of_selects (args := #[]) (mvT hZ (hw _ (List.mem_of_getElem? (i := 34) rfl)))) (hw _ (List.mem_of_getElem? (i := 34) rfl)) (hw _ (List.mem_of_getElem? (i := 33) rfl)) (hw _ (List.mem_of_getElem? (i := 35) rfl)) (hw _ (List.mem_of_getElem? (i := 10) rfl)) (by decide) (rm300 l Z a0 hw [] b19 v5 v6 b4_20 b6_20 (0 : UInt64) (0 : UInt64) (0 : Int32) (0 : Int32) h20 n0 Z0 F_b19_downFalls F_b19_downCounts V_b4_20 V_b6_20 (fun h1 h2 => (own_ld D_v5 D_v6 (own_fr _) (own_bn0 40) (by decide) h1 h2).1) (fun h1 h2 => (own_ld D_v5 D_v6 (own_fr _) (own_bn0 40) (by decide) h1 h2).2.1) g_b4_20 ne_b19_b4_20 (Ne.symm ne_b4_20_b6_20) g_b6_20 ne_b19_b6_20) eH20 (by rw [hml]; rfl) (a := b19) E_b19 (argsL := [(.int (0 : Int32)), (.int (0 : Int32)), (.double v5), (.double v6)]) rfl (lenOf pd_2 rfl) rfl at_135 (pc' := 138) rfl (by decide) (W := 0) (Nat.le_of_eq rfl) (by decide) (by decide) (by decide) (fun T21 h21 Lc21 v21r X21 eH21 hQ21 => ?_)
      obtain ⟨rfl, Nq21, Kq21, gq21_0, gq21_1⟩ := hQ21
      have N21 := Fr.app N20 Nq21
      replace E_b15 := E_b15.keep Kq21
      replace V_b15 := V_b15.keep Kq21 (ninS ne_b15_b4_20 (ninS ne_b15_b6_20 nin0))
      replace E_b16 := E_b16.keep Kq21
      replace V_b16 := V_b16.keep Kq21 (ninS ne_b16_b4_20 (ninS ne_b16_b6_20 nin0))
      replace E_b17 := E_b17.keep Kq21
      replace V_b17 := V_b17.keep Kq21 (ninS ne_b17_b4_20 (ninS ne_b17_b6_20 nin0))
      replace E_b18 := E_b18.keep Kq21
      replace V_b18 := V_b18.keep Kq21 (ninS ne_b18_b4_20 (ninS ne_b18_b6_20 nin0))
      replace E_b19 := E_b19.keep Kq21
      replace F_b19_downFalls := F_b19_downFalls.keep Kq21 (ninS ne_b19_b4_20 (ninS ne_b19_b6_20 nin0))
      replace F_b19_downCounts := F_b19_downCounts.keep Kq21 (ninS ne_b19_b4_20 (ninS ne_b19_b6_20 nin0))
      replace F_b19_upFalls := F_b19_upFalls.keep Kq21 (ninS ne_b19_b4_20 (ninS ne_b19_b6_20 nin0))
      replace F_b19_upCounts := F_b19_upCounts.keep Kq21 (ninS ne_b19_b4_20 (ninS ne_b19_b6_20 nin0))
      replace E_b4_20 := E_b4_20.keep Kq21
      replace E_b6_20 := E_b6_20.keep Kq21
      replace E_b8_20 := E_b8_20.keep Kq21
      replace V_b8_20 := V_b8_20.keep Kq21 (ninS (Ne.symm ne_b4_20_b8_20) (ninS (Ne.symm ne_b6_20_b8_20) nin0))
      replace E_b10_20 := E_b10_20.keep Kq21
      replace V_b10_20 := V_b10_20.keep Kq21 (ninS (Ne.symm ne_b4_20_b10_20) (ninS (Ne.symm ne_b6_20_b10_20) nin0))
      obtain ⟨v22, q_v22⟩ : ∃ z : UInt64, (if dle v5 (4517329193108106637 : UInt64) then (0 : UInt64) else (if dge v5 (4607182409792818153 : UInt64) then (0 : UInt64) else (FP.dadd (0 : UInt64) (FP.ddiv v6 v5)))) = z := ⟨_, rfl⟩
      have V_b4_20 : Ary tr Z h21 b4_20 .double [(.double v22), (.double (0 : UInt64))] := by rw [← q_v22]; exact gq21_0
      obtain ⟨n23, q_n23⟩ : ∃ z : Int32, (if dle v5 (4517329193108106637 : UInt64) then (0 : Int32) else (if dge v5 (4607182409792818153 : UInt64) then (0 : Int32) else ((0 : Int32) + (1 : Int32)))) = z := ⟨_, rfl⟩
      have V_b6_20 : Ary tr Z h21 b6_20 .int [(.int n23), (.int (0 : Int32))] := by rw [← q_n23]; exact gq21_1
      replace Z0 := Nat.le_trans Z0 Kq21.1
      have B_v22 : Bn v22 41 := q_v22 ▸ own_tr (own_bn0 40) (fun h1 h2 => (own_ld D_v5 D_v6 (own_fr _) (own_bn0 40) (by decide) h1 h2).2.2)
      rcases own_bit q_n7 with rfl | rfl
      · refine own_aload X21 hx hby rfl rfl at_138 (pc' := 140) rfl ?_
        rcases own_ite01 q_w8 with rfl | rfl
        · refine own_iload X21 hx hby rfl at_140 (pc' := 142) rfl ?_
          refine own_iload X21 hx hby rfl at_142 (pc' := 144) rfl ?_
          refine own_dload X21 hx hby rfl at_144 (pc' := 146) rfl ?_
          refine own_dload X21 hx hby rfl at_146 (pc' := 148) rfl ?_
          refine own_virtual X21 hx hby hZ (y := (⟨"com/example/bidfold/bidfold/Branching", "learn", "(IZDD)V"⟩ : MethodName)) (y' := (⟨"com/example/bidfold/bidfold/Branching", "learn", "(IZDD)V"⟩ : MethodName)) (C := "com/example/bidfold/bidfold/Branching") (rest := []) hown (hw _ (List.mem_of_getElem? (i := 31) rfl)) (hw _ (List.mem_of_getElem? (i := 32) rfl)) (notFace_of_selects (args := #[]) (mvT hZ (hw _ (List.mem_of_getElem? (i := 34) rfl)))) (hw _ (List.mem_of_getElem? (i := 34) rfl)) (hw _ (List.mem_of_getElem? (i := 33) rfl)) (hw _ (List.mem_of_getElem? (i := 35) rfl)) (hw _ (List.mem_of_getElem? (i := 10) rfl)) (by decide) (rm300 l Z a0 hw [] b19 v11 v12 b4_20 b6_20 v22 (0 : UInt64) n23 (0 : Int32) h21 n0 Z0 F_b19_downFalls F_b19_downCounts V_b4_20 V_b6_20 (fun h1 h2 => (own_ld D_v11 D_v12 (own_fr _) B_v22 (by decide) h1 h2).1) (fun h1 h2 => (own_ld D_v11 D_v12 (own_fr _) B_v22 (by decide) h1 h2).2.1) g_b4_20 ne_b19_b4_20 (Ne.symm ne_b4_20_b6_20) g_b6_20 ne_b19_b6_20) eH21 (by rw [hml]; rfl) (a := b19) E_b19 (argsL := [(.int (0 : Int32)), (.int (0 : Int32)), (.double v11), (.double v12)]) rfl (lenOf pd_2 rfl) rfl at_148 (pc' := 151) rfl (by decide) (W := 0) (Nat.le_of_eq rfl) (by decide) (by decide) (by decide) (fun T24 h24 Lc24 v24r X24 eH24 hQ24 => ?_)
          obtain ⟨rfl, Nq24, Kq24, gq24_0, gq24_1⟩ := hQ24
          have N24 := Fr.app N21 Nq24
          replace E_b15 := E_b15.keep Kq24
          replace V_b15 := V_b15.keep Kq24 (ninS ne_b15_b4_20 (ninS ne_b15_b6_20 nin0))
          replace E_b16 := E_b16.keep Kq24
          replace V_b16 := V_b16.keep Kq24 (ninS ne_b16_b4_20 (ninS ne_b16_b6_20 nin0))
          replace E_b17 := E_b17.keep Kq24
          replace V_b17 := V_b17.keep Kq24 (ninS ne_b17_b4_20 (ninS ne_b17_b6_20 nin0))
          replace E_b18 := E_b18.keep Kq24
          replace V_b18 := V_b18.keep Kq24 (ninS ne_b18_b4_20 (ninS ne_b18_b6_20 nin0))
          replace E_b19 := E_b19.keep Kq24
          replace F_b19_downFalls := F_b19_downFalls.keep Kq24 (ninS ne_b19_b4_20 (ninS ne_b19_b6_20 nin0))
          replace F_b19_downCounts := F_b19_downCounts.keep Kq24 (ninS ne_b19_b4_20 (ninS ne_b19_b6_20 nin0))
          replace F_b19_upFalls := F_b19_upFalls.keep Kq24 (ninS ne_b19_b4_20 (ninS ne_b19_b6_20 nin0))
          replace F_b19_upCounts := F_b19_upCounts.keep Kq24 (ninS ne_b19_b4_20 (ninS ne_b19_b6_20 nin0))
          replace E_b4_20 := E_b4_20.keep Kq24
          replace E_b6_20 := E_b6_20.keep Kq24
          replace E_b8_20 := E_b8_20.keep Kq24
          replace V_b8_20 := V_b8_20.keep Kq24 (ninS (Ne.symm ne_b4_20_b8_20) (ninS (Ne.symm ne_b6_20_b8_20) nin0))
          replace E_b10_20 := E_b10_20.keep Kq24
          replace V_b10_20 := V_b10_20.keep Kq24 (ninS (Ne.symm ne_b4_20_b10_20) (ninS (Ne.symm ne_b6_20_b10_20) nin0))
          obtain ⟨v25, q_v25⟩ : ∃ z : UInt64, (if dle v11 (4517329193108106637 : UInt64) then v22 else (if dge v11 (4607182409792818153 : UInt64) then v22 else (FP.dadd v22 (FP.ddiv v12 v11)))) = z := ⟨_, rfl⟩
          have V_b4_20 : Ary tr Z h24 b4_20 .double [(.double v25), (.double (0 : UInt64))] := by rw [← q_v25]; exact gq24_0
          obtain ⟨n26, q_n26⟩ : ∃ z : Int32, (if dle v11 (4517329193108106637 : UInt64) then n23 else (if dge v11 (4607182409792818153 : UInt64) then n23 else (n23 + (1 : Int32)))) = z := ⟨_, rfl⟩
          have V_b6_20 : Ary tr Z h24 b6_20 .int [(.int n26), (.int (0 : Int32))] := by rw [← q_n26]; exact gq24_1
          replace Z0 := Nat.le_trans Z0 Kq24.1
          have B_v25 : Bn v25 42 := q_v25 ▸ own_tr B_v22 (fun h1 h2 => (own_ld D_v11 D_v12 (own_fr _) B_v22 (by decide) h1 h2).2.2)
          refine own_iload X24 hx hby rfl at_151 (pc' := 153) rfl ?_
          refine own_iload X24 hx hby rfl at_153 (pc' := 155) rfl ?_
          refine own_dload X24 hx hby rfl at_155 (pc' := 157) rfl ?_
          refine own_dload X24 hx hby rfl at_157 (pc' := 159) rfl ?_
          refine own_aload X24 hx hby rfl rfl at_159 (pc' := 161) rfl ?_
          refine own_aload X24 hx hby rfl rfl at_161 (pc' := 163) rfl ?_
          refine own_aload X24 hx hby rfl rfl at_163 (pc' := 165) rfl ?_
          refine own_aload X24 hx hby rfl rfl at_165 (pc' := 167) rfl ?_
          refine own_static X24 hx hby hZ (y := (⟨"com/example/bidfold/bidfold/BranchingLearnPinLaw", "model", "(IZDD[D[I[D[I)V"⟩ : MethodName)) (rest := []) hown (hw _ (List.mem_of_getElem? (i := 37) rfl)) (hw _ (List.mem_of_getElem? (i := 38) rfl)) (hw _ (List.mem_of_getElem? (i := 40) rfl)) (hw _ (List.mem_of_getElem? (i := 39) rfl)) (by decide) (rm400 l Z a0 hw [] v5 v6 b15 b16 b17 b18 (0 : UInt64) (0 : UInt64) (0 : Int32) (0 : Int32) h24 n0 Z0 V_b17 V_b18 (fun h1 h2 => (own_ld D_v5 D_v6 (own_fr _) (own_bn0 40) (by decide) h1 h2).1) (fun h1 h2 => (own_ld D_v5 D_v6 (own_fr _) (own_bn0 40) (by decide) h1 h2).2.1) g_b17 (Ne.symm ne_b17_b18) g_b18) eH24 (by rw [hml]; rfl) (argsL := [(.int (0 : Int32)), (.int (0 : Int32)), (.double v5), (.double v6), (.ref b15), (.ref b16), (.ref b17), (.ref b18)]) rfl (lenOf pd_3 rfl) rfl at_167 (pc' := 170) rfl (by decide) (W := 0) (Nat.le_of_eq rfl) (by decide) (by decide) (by decide) (fun T27 h27 Lc27 v27r X27 eH27 hQ27 => ?_)
          obtain ⟨rfl, Nq27, Kq27, gq27_0, gq27_1⟩ := hQ27
          have N27 := Fr.app N24 Nq27
          replace E_b15 := E_b15.keep Kq27
          replace V_b15 := V_b15.keep Kq27 (ninS ne_b15_b17 (ninS ne_b15_b18 nin0))
          replace E_b16 := E_b16.keep Kq27
          replace V_b16 := V_b16.keep Kq27 (ninS ne_b16_b17 (ninS ne_b16_b18 nin0))
          replace E_b17 := E_b17.keep Kq27
          replace E_b18 := E_b18.keep Kq27
          replace E_b19 := E_b19.keep Kq27
          replace F_b19_downFalls := F_b19_downFalls.keep Kq27 (ninS (Ne.symm ne_b17_b19) (ninS (Ne.symm ne_b18_b19) nin0))
          replace F_b19_downCounts := F_b19_downCounts.keep Kq27 (ninS (Ne.symm ne_b17_b19) (ninS (Ne.symm ne_b18_b19) nin0))
          replace F_b19_upFalls := F_b19_upFalls.keep Kq27 (ninS (Ne.symm ne_b17_b19) (ninS (Ne.symm ne_b18_b19) nin0))
          replace F_b19_upCounts := F_b19_upCounts.keep Kq27 (ninS (Ne.symm ne_b17_b19) (ninS (Ne.symm ne_b18_b19) nin0))
          replace E_b4_20 := E_b4_20.keep Kq27
          replace V_b4_20 := V_b4_20.keep Kq27 (ninS (Ne.symm ne_b17_b4_20) (ninS (Ne.symm ne_b18_b4_20) nin0))
          replace E_b6_20 := E_b6_20.keep Kq27
          replace V_b6_20 := V_b6_20.keep Kq27 (ninS (Ne.symm ne_b17_b6_20) (ninS (Ne.symm ne_b18_b6_20) nin0))
          replace E_b8_20 := E_b8_20.keep Kq27
          replace V_b8_20 := V_b8_20.keep Kq27 (ninS (Ne.symm ne_b17_b8_20) (ninS (Ne.symm ne_b18_b8_20) nin0))
          replace E_b10_20 := E_b10_20.keep Kq27
          replace V_b10_20 := V_b10_20.keep Kq27 (ninS (Ne.symm ne_b17_b10_20) (ninS (Ne.symm ne_b18_b10_20) nin0))
          have V_b17 : Ary tr Z h27 b17 .double [(.double v22), (.double (0 : UInt64))] := by rw [← q_v22]; exact gq27_0
          have V_b18 : Ary tr Z h27 b18 .int [(.int n23), (.int (0 : Int32))] := by rw [← q_n23]; exact gq27_1
          replace Z0 := Nat.le_trans Z0 Kq27.1
          refine own_iload X27 hx hby rfl at_170 (pc' := 172) rfl ?_
          refine own_iload X27 hx hby rfl at_172 (pc' := 174) rfl ?_
          refine own_dload X27 hx hby rfl at_174 (pc' := 176) rfl ?_
          refine own_dload X27 hx hby rfl at_176 (pc' := 178) rfl ?_
          refine own_aload X27 hx hby rfl rfl at_178 (pc' := 180) rfl ?_
          refine own_aload X27 hx hby rfl rfl at_180 (pc' := 182) rfl ?_
          refine own_aload X27 hx hby rfl rfl at_182 (pc' := 184) rfl ?_
          refine own_aload X27 hx hby rfl rfl at_184 (pc' := 186) rfl ?_
          refine own_static X27 hx hby hZ (y := (⟨"com/example/bidfold/bidfold/BranchingLearnPinLaw", "model", "(IZDD[D[I[D[I)V"⟩ : MethodName)) (rest := []) hown (hw _ (List.mem_of_getElem? (i := 37) rfl)) (hw _ (List.mem_of_getElem? (i := 38) rfl)) (hw _ (List.mem_of_getElem? (i := 40) rfl)) (hw _ (List.mem_of_getElem? (i := 39) rfl)) (by decide) (rm400 l Z a0 hw [] v11 v12 b15 b16 b17 b18 v22 (0 : UInt64) n23 (0 : Int32) h27 n0 Z0 V_b17 V_b18 (fun h1 h2 => (own_ld D_v11 D_v12 (own_fr _) B_v22 (by decide) h1 h2).1) (fun h1 h2 => (own_ld D_v11 D_v12 (own_fr _) B_v22 (by decide) h1 h2).2.1) g_b17 (Ne.symm ne_b17_b18) g_b18) eH27 (by rw [hml]; rfl) (argsL := [(.int (0 : Int32)), (.int (0 : Int32)), (.double v11), (.double v12), (.ref b15), (.ref b16), (.ref b17), (.ref b18)]) rfl (lenOf pd_3 rfl) rfl at_186 (pc' := 189) rfl (by decide) (W := 0) (Nat.le_of_eq rfl) (by decide) (by decide) (by decide) (fun T28 h28 Lc28 v28r X28 eH28 hQ28 => ?_)
          obtain ⟨rfl, Nq28, Kq28, gq28_0, gq28_1⟩ := hQ28
          have N28 := Fr.app N27 Nq28
          replace E_b15 := E_b15.keep Kq28
          replace V_b15 := V_b15.keep Kq28 (ninS ne_b15_b17 (ninS ne_b15_b18 nin0))
          replace E_b16 := E_b16.keep Kq28
          replace V_b16 := V_b16.keep Kq28 (ninS ne_b16_b17 (ninS ne_b16_b18 nin0))
          replace E_b17 := E_b17.keep Kq28
          replace E_b18 := E_b18.keep Kq28
          replace E_b19 := E_b19.keep Kq28
          replace F_b19_downFalls := F_b19_downFalls.keep Kq28 (ninS (Ne.symm ne_b17_b19) (ninS (Ne.symm ne_b18_b19) nin0))
          replace F_b19_downCounts := F_b19_downCounts.keep Kq28 (ninS (Ne.symm ne_b17_b19) (ninS (Ne.symm ne_b18_b19) nin0))
          replace F_b19_upFalls := F_b19_upFalls.keep Kq28 (ninS (Ne.symm ne_b17_b19) (ninS (Ne.symm ne_b18_b19) nin0))
          replace F_b19_upCounts := F_b19_upCounts.keep Kq28 (ninS (Ne.symm ne_b17_b19) (ninS (Ne.symm ne_b18_b19) nin0))
          replace E_b4_20 := E_b4_20.keep Kq28
          replace V_b4_20 := V_b4_20.keep Kq28 (ninS (Ne.symm ne_b17_b4_20) (ninS (Ne.symm ne_b18_b4_20) nin0))
          replace E_b6_20 := E_b6_20.keep Kq28
          replace V_b6_20 := V_b6_20.keep Kq28 (ninS (Ne.symm ne_b17_b6_20) (ninS (Ne.symm ne_b18_b6_20) nin0))
          replace E_b8_20 := E_b8_20.keep Kq28
          replace V_b8_20 := V_b8_20.keep Kq28 (ninS (Ne.symm ne_b17_b8_20) (ninS (Ne.symm ne_b18_b8_20) nin0))
          replace E_b10_20 := E_b10_20.keep Kq28
          replace V_b10_20 := V_b10_20.keep Kq28 (ninS (Ne.symm ne_b17_b10_20) (ninS (Ne.symm ne_b18_b10_20) nin0))
          have V_b17 : Ary tr Z h28 b17 .double [(.double v25), (.double (0 : UInt64))] := by rw [← q_v25]; exact gq28_0
          have V_b18 : Ary tr Z h28 b18 .int [(.int n26), (.int (0 : Int32))] := by rw [← q_n26]; exact gq28_1
          replace Z0 := Nat.le_trans Z0 Kq28.1
          refine own_aload X28 hx hby rfl rfl at_189 (pc' := 191) rfl ?_
          refine own_iconst X28 hx hby (v := (0 : Int32)) (by decide) at_191 (pc' := 192) rfl ?_
          refine own_dload X28 hx hby rfl at_192 (pc' := 194) rfl ?_
          refine own_virtual X28 hx hby hZ (y := (⟨"com/example/bidfold/bidfold/Branching", "leansIn", "(ID)Z"⟩ : MethodName)) (y' := (⟨"com/example/bidfold/bidfold/Branching", "leansIn", "(ID)Z"⟩ : MethodName)) (C := "com/example/bidfold/bidfold/Branching") (rest := []) hown (hw _ (List.mem_of_getElem? (i := 42) rfl)) (hw _ (List.mem_of_getElem? (i := 43) rfl)) (notFace_of_selects (args := #[]) (mvT hZ (hw _ (List.mem_of_getElem? (i := 45) rfl)))) (hw _ (List.mem_of_getElem? (i := 45) rfl)) (hw _ (List.mem_of_getElem? (i := 44) rfl)) (hw _ (List.mem_of_getElem? (i := 46) rfl)) (hw _ (List.mem_of_getElem? (i := 10) rfl)) (by decide) (rm50 l Z a0 hw [] b19 v14 b8_20 b10_20 (0 : UInt64) (0 : UInt64) (0 : Int32) (0 : Int32) b4_20 b6_20 v25 (0 : UInt64) n26 (0 : Int32) h28 n0 Z0 F_b19_upFalls F_b19_upCounts V_b8_20 V_b10_20 F_b19_downFalls F_b19_downCounts V_b4_20 V_b6_20 (fun h => (own_fq (own_bn0 40) (by decide) h).nn) P1.nn ((own_fpu (own_bn0 40) (by decide)).mul P1 (by decide)).nn (fun h => (own_fq B_v25 (by decide) h).nn) ((own_fpu B_v25 (by decide)).mul P0 (by decide)).nn) eH28 (by rw [hml]; rfl) (a := b19) E_b19 (argsL := [(.int (0 : Int32)), (.double v14)]) rfl (lenOf pd_4 rfl) rfl at_194 (pc' := 197) rfl (by decide) (W := 0) (Nat.le_of_eq rfl) (by decide) (by decide) (by decide) (fun T29 h29 Lc29 v29r X29 eH29 hQ29 => ?_)
          obtain ⟨rfl, Nq29, rfl⟩ := hQ29
          have N29 := Fr.app N28 Nq29
          dsimp only [Option.toList, List.cons_append, List.nil_append]
          generalize q_r30 : (if dle (FP.dmul (if 0 < (0 : Int32) then (FP.ddiv (0 : UInt64) (FP.i2d (0 : Int32))) else (4607182418800017408 : UInt64)) (FP.dsub (4607182418800017408 : UInt64) v14)) (FP.dmul (if 0 < n26 then (FP.ddiv v25 (FP.i2d n26)) else (4607182418800017408 : UInt64)) v14) then (1 : Int32) else (0 : Int32)) = r30
          refine own_iconst X29 hx hby (v := (0 : Int32)) (by decide) at_197 (pc' := 198) rfl ?_
          refine own_dload X29 hx hby rfl at_198 (pc' := 200) rfl ?_
          refine own_aload X29 hx hby rfl rfl at_200 (pc' := 202) rfl ?_
          refine own_aload X29 hx hby rfl rfl at_202 (pc' := 204) rfl ?_
          refine own_aload X29 hx hby rfl rfl at_204 (pc' := 206) rfl ?_
          refine own_aload X29 hx hby rfl rfl at_206 (pc' := 208) rfl ?_
          refine own_static X29 hx hby hZ (y := (⟨"com/example/bidfold/bidfold/BranchingLearnPinLaw", "expect", "(ID[D[I[D[I)Z"⟩ : MethodName)) (rest := [(.int r30)]) hown (hw _ (List.mem_of_getElem? (i := 50) rfl)) (hw _ (List.mem_of_getElem? (i := 51) rfl)) (hw _ (List.mem_of_getElem? (i := 52) rfl)) (hw _ (List.mem_of_getElem? (i := 39) rfl)) (by decide) (rm70 l Z a0 hw [] v14 b15 b16 b17 b18 (0 : UInt64) (0 : UInt64) (0 : Int32) (0 : Int32) v25 (0 : UInt64) n26 (0 : Int32) h28 n0 Z0 V_b15 V_b16 V_b17 V_b18 (fun h => (own_fq (own_bn0 40) (by decide) h).nn) (fun h => (own_fq B_v25 (by decide) h).nn) P1.nn ((own_fpu (own_bn0 40) (by decide)).mul P1 (by decide)).nn ((own_fpu B_v25 (by decide)).mul P0 (by decide)).nn) eH29 (by rw [hml]; rfl) (argsL := [(.int (0 : Int32)), (.double v14), (.ref b15), (.ref b16), (.ref b17), (.ref b18)]) rfl (lenOf pd_5 rfl) rfl at_208 (pc' := 211) rfl (by decide) (W := 1) (Nat.le_of_eq rfl) (by decide) (by decide) (by decide) (fun T31 h31 Lc31 v31r X31 eH31 hQ31 => ?_)
          obtain ⟨rfl, Nq31, rfl⟩ := hQ31
          have N31 := Fr.app N29 Nq31
          dsimp only [Option.toList, List.cons_append, List.nil_append]
          generalize q_r32 : (if dle (FP.dmul (if 0 < (0 : Int32) then (FP.ddiv (0 : UInt64) (FP.i2d (0 : Int32))) else (4607182418800017408 : UInt64)) (FP.dsub (4607182418800017408 : UInt64) v14)) (FP.dmul (if 0 < n26 then (FP.ddiv v25 (FP.i2d n26)) else (4607182418800017408 : UInt64)) v14) then (1 : Int32) else (0 : Int32)) = r32
          have hk33 : r30 = r32 := q_r30.symm.trans q_r32
          refine own_icF X31 hx hby at_211 (own_ic_ne_p hk33) (pc' := 214) rfl ?_
          refine own_aload X31 hx hby rfl rfl at_214 (pc' := 216) rfl ?_
          refine own_iconst X31 hx hby (v := (1 : Int32)) (by decide) at_216 (pc' := 217) rfl ?_
          refine own_dload X31 hx hby rfl at_217 (pc' := 219) rfl ?_
          refine own_virtual X31 hx hby hZ (y := (⟨"com/example/bidfold/bidfold/Branching", "leansIn", "(ID)Z"⟩ : MethodName)) (y' := (⟨"com/example/bidfold/bidfold/Branching", "leansIn", "(ID)Z"⟩ : MethodName)) (C := "com/example/bidfold/bidfold/Branching") (rest := []) hown (hw _ (List.mem_of_getElem? (i := 42) rfl)) (hw _ (List.mem_of_getElem? (i := 43) rfl)) (notFace_of_selects (args := #[]) (mvT hZ (hw _ (List.mem_of_getElem? (i := 45) rfl)))) (hw _ (List.mem_of_getElem? (i := 45) rfl)) (hw _ (List.mem_of_getElem? (i := 44) rfl)) (hw _ (List.mem_of_getElem? (i := 46) rfl)) (hw _ (List.mem_of_getElem? (i := 10) rfl)) (by decide) (rm51 l Z a0 hw [] b19 v14 b8_20 b10_20 (0 : UInt64) (0 : UInt64) (0 : Int32) (0 : Int32) b4_20 b6_20 v25 (0 : UInt64) n26 (0 : Int32) h28 n0 Z0 F_b19_upFalls F_b19_upCounts V_b8_20 V_b10_20 F_b19_downFalls F_b19_downCounts V_b4_20 V_b6_20 (fun h => (own_fq (own_bn0 40) (by decide) h).nn) P1.nn ((own_fpu (own_bn0 40) (by decide)).mul P1 (by decide)).nn (fun h => (own_fq (own_bn0 40) (by decide) h).nn) ((own_fpu (own_bn0 40) (by decide)).mul P0 (by decide)).nn) eH31 (by rw [hml]; rfl) (a := b19) E_b19 (argsL := [(.int (1 : Int32)), (.double v14)]) rfl (lenOf pd_4 rfl) rfl at_219 (pc' := 222) rfl (by decide) (W := 0) (Nat.le_of_eq rfl) (by decide) (by decide) (by decide) (fun T34 h34 Lc34 v34r X34 eH34 hQ34 => ?_)
          obtain ⟨rfl, Nq34, rfl⟩ := hQ34
          have N34 := Fr.app N31 Nq34
          dsimp only [Option.toList, List.cons_append, List.nil_append]
          generalize q_r35 : (if dle (FP.dmul (if 0 < (0 : Int32) then (FP.ddiv (0 : UInt64) (FP.i2d (0 : Int32))) else (4607182418800017408 : UInt64)) (FP.dsub (4607182418800017408 : UInt64) v14)) (FP.dmul (if 0 < (0 : Int32) then (FP.ddiv (0 : UInt64) (FP.i2d (0 : Int32))) else (4607182418800017408 : UInt64)) v14) then (1 : Int32) else (0 : Int32)) = r35
          refine own_iconst X34 hx hby (v := (1 : Int32)) (by decide) at_222 (pc' := 223) rfl ?_
          refine own_dload X34 hx hby rfl at_223 (pc' := 225) rfl ?_
          refine own_aload X34 hx hby rfl rfl at_225 (pc' := 227) rfl ?_
          refine own_aload X34 hx hby rfl rfl at_227 (pc' := 229) rfl ?_
          refine own_aload X34 hx hby rfl rfl at_229 (pc' := 231) rfl ?_
          refine own_aload X34 hx hby rfl rfl at_231 (pc' := 233) rfl ?_
          refine own_static X34 hx hby hZ (y := (⟨"com/example/bidfold/bidfold/BranchingLearnPinLaw", "expect", "(ID[D[I[D[I)Z"⟩ : MethodName)) (rest := [(.int r35)]) hown (hw _ (List.mem_of_getElem? (i := 50) rfl)) (hw _ (List.mem_of_getElem? (i := 51) rfl)) (hw _ (List.mem_of_getElem? (i := 52) rfl)) (hw _ (List.mem_of_getElem? (i := 39) rfl)) (by decide) (rm71 l Z a0 hw [] v14 b15 b16 b17 b18 (0 : UInt64) (0 : UInt64) (0 : Int32) (0 : Int32) v25 (0 : UInt64) n26 (0 : Int32) h28 n0 Z0 V_b15 V_b16 V_b17 V_b18 (fun h => (own_fq (own_bn0 40) (by decide) h).nn) (fun h => (own_fq (own_bn0 40) (by decide) h).nn) P1.nn ((own_fpu (own_bn0 40) (by decide)).mul P1 (by decide)).nn ((own_fpu (own_bn0 40) (by decide)).mul P0 (by decide)).nn) eH34 (by rw [hml]; rfl) (argsL := [(.int (1 : Int32)), (.double v14), (.ref b15), (.ref b16), (.ref b17), (.ref b18)]) rfl (lenOf pd_5 rfl) rfl at_233 (pc' := 236) rfl (by decide) (W := 1) (Nat.le_of_eq rfl) (by decide) (by decide) (by decide) (fun T36 h36 Lc36 v36r X36 eH36 hQ36 => ?_)
          obtain ⟨rfl, Nq36, rfl⟩ := hQ36
          have N36 := Fr.app N34 Nq36
          dsimp only [Option.toList, List.cons_append, List.nil_append]
          generalize q_r37 : (if dle (FP.dmul (if 0 < (0 : Int32) then (FP.ddiv (0 : UInt64) (FP.i2d (0 : Int32))) else (4607182418800017408 : UInt64)) (FP.dsub (4607182418800017408 : UInt64) v14)) (FP.dmul (if 0 < (0 : Int32) then (FP.ddiv (0 : UInt64) (FP.i2d (0 : Int32))) else (4607182418800017408 : UInt64)) v14) then (1 : Int32) else (0 : Int32)) = r37
          have hk38 : r35 = r37 := q_r35.symm.trans q_r37
          refine own_icF X36 hx hby at_236 (own_ic_ne_p hk38) (pc' := 239) rfl ?_
          refine own_iconst X36 hx hby (v := (1 : Int32)) (by decide) at_239 (pc' := 240) rfl ?_
          refine own_goto X36 hx hby at_240 (by decide) (pc' := 244) (by decide) ?_
          exact own_retZ X36 hx hby Bd.notSynchronized Bd.returns (Or.inr rfl) at_244 (by decide) (by decide) eH36 ⟨rfl, N36⟩
        · refine own_iload X21 hx hby rfl at_140 (pc' := 142) rfl ?_
          refine own_iload X21 hx hby rfl at_142 (pc' := 144) rfl ?_
          refine own_dload X21 hx hby rfl at_144 (pc' := 146) rfl ?_
          refine own_dload X21 hx hby rfl at_146 (pc' := 148) rfl ?_
          refine own_virtual X21 hx hby hZ (y := (⟨"com/example/bidfold/bidfold/Branching", "learn", "(IZDD)V"⟩ : MethodName)) (y' := (⟨"com/example/bidfold/bidfold/Branching", "learn", "(IZDD)V"⟩ : MethodName)) (C := "com/example/bidfold/bidfold/Branching") (rest := []) hown (hw _ (List.mem_of_getElem? (i := 31) rfl)) (hw _ (List.mem_of_getElem? (i := 32) rfl)) (notFace_of_selects (args := #[]) (mvT hZ (hw _ (List.mem_of_getElem? (i := 34) rfl)))) (hw _ (List.mem_of_getElem? (i := 34) rfl)) (hw _ (List.mem_of_getElem? (i := 33) rfl)) (hw _ (List.mem_of_getElem? (i := 35) rfl)) (hw _ (List.mem_of_getElem? (i := 10) rfl)) (by decide) (rm301 l Z a0 hw [] b19 v11 v12 b8_20 b10_20 (0 : UInt64) (0 : UInt64) (0 : Int32) (0 : Int32) h21 n0 Z0 F_b19_upFalls F_b19_upCounts V_b8_20 V_b10_20 (fun h1 h2 => (own_lu D_v11 D_v12 (own_fr _) (own_bn0 40) (by decide) h1 h2).1) (fun h1 h2 => (own_lu D_v11 D_v12 (own_fr _) (own_bn0 40) (by decide) h1 h2).2.1) (fun h1 h2 => (own_lu D_v11 D_v12 (own_fr _) (own_bn0 40) (by decide) h1 h2).2.2.1) g_b8_20 ne_b19_b8_20 (Ne.symm ne_b8_20_b10_20) g_b10_20 ne_b19_b10_20) eH21 (by rw [hml]; rfl) (a := b19) E_b19 (argsL := [(.int (0 : Int32)), (.int (1 : Int32)), (.double v11), (.double v12)]) rfl (lenOf pd_2 rfl) rfl at_148 (pc' := 151) rfl (by decide) (W := 0) (Nat.le_of_eq rfl) (by decide) (by decide) (by decide) (fun T39 h39 Lc39 v39r X39 eH39 hQ39 => ?_)
          obtain ⟨rfl, Nq39, Kq39, gq39_0, gq39_1⟩ := hQ39
          have N39 := Fr.app N21 Nq39
          replace E_b15 := E_b15.keep Kq39
          replace V_b15 := V_b15.keep Kq39 (ninS ne_b15_b8_20 (ninS ne_b15_b10_20 nin0))
          replace E_b16 := E_b16.keep Kq39
          replace V_b16 := V_b16.keep Kq39 (ninS ne_b16_b8_20 (ninS ne_b16_b10_20 nin0))
          replace E_b17 := E_b17.keep Kq39
          replace V_b17 := V_b17.keep Kq39 (ninS ne_b17_b8_20 (ninS ne_b17_b10_20 nin0))
          replace E_b18 := E_b18.keep Kq39
          replace V_b18 := V_b18.keep Kq39 (ninS ne_b18_b8_20 (ninS ne_b18_b10_20 nin0))
          replace E_b19 := E_b19.keep Kq39
          replace F_b19_downFalls := F_b19_downFalls.keep Kq39 (ninS ne_b19_b8_20 (ninS ne_b19_b10_20 nin0))
          replace F_b19_downCounts := F_b19_downCounts.keep Kq39 (ninS ne_b19_b8_20 (ninS ne_b19_b10_20 nin0))
          replace F_b19_upFalls := F_b19_upFalls.keep Kq39 (ninS ne_b19_b8_20 (ninS ne_b19_b10_20 nin0))
          replace F_b19_upCounts := F_b19_upCounts.keep Kq39 (ninS ne_b19_b8_20 (ninS ne_b19_b10_20 nin0))
          replace E_b4_20 := E_b4_20.keep Kq39
          replace V_b4_20 := V_b4_20.keep Kq39 (ninS ne_b4_20_b8_20 (ninS ne_b4_20_b10_20 nin0))
          replace E_b6_20 := E_b6_20.keep Kq39
          replace V_b6_20 := V_b6_20.keep Kq39 (ninS ne_b6_20_b8_20 (ninS ne_b6_20_b10_20 nin0))
          replace E_b8_20 := E_b8_20.keep Kq39
          replace E_b10_20 := E_b10_20.keep Kq39
          obtain ⟨v40, q_v40⟩ : ∃ z : UInt64, (if dle v11 (4517329193108106637 : UInt64) then (0 : UInt64) else (if dge v11 (4607182409792818153 : UInt64) then (0 : UInt64) else (FP.dadd (0 : UInt64) (FP.ddiv v12 (FP.dsub (4607182418800017408 : UInt64) v11))))) = z := ⟨_, rfl⟩
          have V_b8_20 : Ary tr Z h39 b8_20 .double [(.double v40), (.double (0 : UInt64))] := by rw [← q_v40]; exact gq39_0
          obtain ⟨n41, q_n41⟩ : ∃ z : Int32, (if dle v11 (4517329193108106637 : UInt64) then (0 : Int32) else (if dge v11 (4607182409792818153 : UInt64) then (0 : Int32) else ((0 : Int32) + (1 : Int32)))) = z := ⟨_, rfl⟩
          have V_b10_20 : Ary tr Z h39 b10_20 .int [(.int n41), (.int (0 : Int32))] := by rw [← q_n41]; exact gq39_1
          replace Z0 := Nat.le_trans Z0 Kq39.1
          have B_v40 : Bn v40 41 := q_v40 ▸ own_tr (own_bn0 40) (fun h1 h2 => (own_lu D_v11 D_v12 (own_fr _) (own_bn0 40) (by decide) h1 h2).2.2.2)
          refine own_iload X39 hx hby rfl at_151 (pc' := 153) rfl ?_
          refine own_iload X39 hx hby rfl at_153 (pc' := 155) rfl ?_
          refine own_dload X39 hx hby rfl at_155 (pc' := 157) rfl ?_
          refine own_dload X39 hx hby rfl at_157 (pc' := 159) rfl ?_
          refine own_aload X39 hx hby rfl rfl at_159 (pc' := 161) rfl ?_
          refine own_aload X39 hx hby rfl rfl at_161 (pc' := 163) rfl ?_
          refine own_aload X39 hx hby rfl rfl at_163 (pc' := 165) rfl ?_
          refine own_aload X39 hx hby rfl rfl at_165 (pc' := 167) rfl ?_
          refine own_static X39 hx hby hZ (y := (⟨"com/example/bidfold/bidfold/BranchingLearnPinLaw", "model", "(IZDD[D[I[D[I)V"⟩ : MethodName)) (rest := []) hown (hw _ (List.mem_of_getElem? (i := 37) rfl)) (hw _ (List.mem_of_getElem? (i := 38) rfl)) (hw _ (List.mem_of_getElem? (i := 40) rfl)) (hw _ (List.mem_of_getElem? (i := 39) rfl)) (by decide) (rm400 l Z a0 hw [] v5 v6 b15 b16 b17 b18 (0 : UInt64) (0 : UInt64) (0 : Int32) (0 : Int32) h39 n0 Z0 V_b17 V_b18 (fun h1 h2 => (own_ld D_v5 D_v6 (own_fr _) (own_bn0 40) (by decide) h1 h2).1) (fun h1 h2 => (own_ld D_v5 D_v6 (own_fr _) (own_bn0 40) (by decide) h1 h2).2.1) g_b17 (Ne.symm ne_b17_b18) g_b18) eH39 (by rw [hml]; rfl) (argsL := [(.int (0 : Int32)), (.int (0 : Int32)), (.double v5), (.double v6), (.ref b15), (.ref b16), (.ref b17), (.ref b18)]) rfl (lenOf pd_3 rfl) rfl at_167 (pc' := 170) rfl (by decide) (W := 0) (Nat.le_of_eq rfl) (by decide) (by decide) (by decide) (fun T42 h42 Lc42 v42r X42 eH42 hQ42 => ?_)
          obtain ⟨rfl, Nq42, Kq42, gq42_0, gq42_1⟩ := hQ42
          have N42 := Fr.app N39 Nq42
          replace E_b15 := E_b15.keep Kq42
          replace V_b15 := V_b15.keep Kq42 (ninS ne_b15_b17 (ninS ne_b15_b18 nin0))
          replace E_b16 := E_b16.keep Kq42
          replace V_b16 := V_b16.keep Kq42 (ninS ne_b16_b17 (ninS ne_b16_b18 nin0))
          replace E_b17 := E_b17.keep Kq42
          replace E_b18 := E_b18.keep Kq42
          replace E_b19 := E_b19.keep Kq42
          replace F_b19_downFalls := F_b19_downFalls.keep Kq42 (ninS (Ne.symm ne_b17_b19) (ninS (Ne.symm ne_b18_b19) nin0))
          replace F_b19_downCounts := F_b19_downCounts.keep Kq42 (ninS (Ne.symm ne_b17_b19) (ninS (Ne.symm ne_b18_b19) nin0))
          replace F_b19_upFalls := F_b19_upFalls.keep Kq42 (ninS (Ne.symm ne_b17_b19) (ninS (Ne.symm ne_b18_b19) nin0))
          replace F_b19_upCounts := F_b19_upCounts.keep Kq42 (ninS (Ne.symm ne_b17_b19) (ninS (Ne.symm ne_b18_b19) nin0))
          replace E_b4_20 := E_b4_20.keep Kq42
          replace V_b4_20 := V_b4_20.keep Kq42 (ninS (Ne.symm ne_b17_b4_20) (ninS (Ne.symm ne_b18_b4_20) nin0))
          replace E_b6_20 := E_b6_20.keep Kq42
          replace V_b6_20 := V_b6_20.keep Kq42 (ninS (Ne.symm ne_b17_b6_20) (ninS (Ne.symm ne_b18_b6_20) nin0))
          replace E_b8_20 := E_b8_20.keep Kq42
          replace V_b8_20 := V_b8_20.keep Kq42 (ninS (Ne.symm ne_b17_b8_20) (ninS (Ne.symm ne_b18_b8_20) nin0))
          replace E_b10_20 := E_b10_20.keep Kq42
          replace V_b10_20 := V_b10_20.keep Kq42 (ninS (Ne.symm ne_b17_b10_20) (ninS (Ne.symm ne_b18_b10_20) nin0))
          have V_b17 : Ary tr Z h42 b17 .double [(.double v22), (.double (0 : UInt64))] := by rw [← q_v22]; exact gq42_0
          have V_b18 : Ary tr Z h42 b18 .int [(.int n23), (.int (0 : Int32))] := by rw [← q_n23]; exact gq42_1
          replace Z0 := Nat.le_trans Z0 Kq42.1
          refine own_iload X42 hx hby rfl at_170 (pc' := 172) rfl ?_
          refine own_iload X42 hx hby rfl at_172 (pc' := 174) rfl ?_
          refine own_dload X42 hx hby rfl at_174 (pc' := 176) rfl ?_
          refine own_dload X42 hx hby rfl at_176 (pc' := 178) rfl ?_
          refine own_aload X42 hx hby rfl rfl at_178 (pc' := 180) rfl ?_
          refine own_aload X42 hx hby rfl rfl at_180 (pc' := 182) rfl ?_
          refine own_aload X42 hx hby rfl rfl at_182 (pc' := 184) rfl ?_
          refine own_aload X42 hx hby rfl rfl at_184 (pc' := 186) rfl ?_
          refine own_static X42 hx hby hZ (y := (⟨"com/example/bidfold/bidfold/BranchingLearnPinLaw", "model", "(IZDD[D[I[D[I)V"⟩ : MethodName)) (rest := []) hown (hw _ (List.mem_of_getElem? (i := 37) rfl)) (hw _ (List.mem_of_getElem? (i := 38) rfl)) (hw _ (List.mem_of_getElem? (i := 40) rfl)) (hw _ (List.mem_of_getElem? (i := 39) rfl)) (by decide) (rm401 l Z a0 hw [] v11 v12 b15 b16 b17 b18 (0 : UInt64) (0 : UInt64) (0 : Int32) (0 : Int32) h42 n0 Z0 V_b15 V_b16 (fun h1 h2 => (own_lu D_v11 D_v12 (own_fr _) (own_bn0 40) (by decide) h1 h2).1) (fun h1 h2 => (own_lu D_v11 D_v12 (own_fr _) (own_bn0 40) (by decide) h1 h2).2.1) (fun h1 h2 => (own_lu D_v11 D_v12 (own_fr _) (own_bn0 40) (by decide) h1 h2).2.2.1) g_b15 (Ne.symm ne_b15_b16) g_b16) eH42 (by rw [hml]; rfl) (argsL := [(.int (0 : Int32)), (.int (1 : Int32)), (.double v11), (.double v12), (.ref b15), (.ref b16), (.ref b17), (.ref b18)]) rfl (lenOf pd_3 rfl) rfl at_186 (pc' := 189) rfl (by decide) (W := 0) (Nat.le_of_eq rfl) (by decide) (by decide) (by decide) (fun T43 h43 Lc43 v43r X43 eH43 hQ43 => ?_)
          obtain ⟨rfl, Nq43, Kq43, gq43_0, gq43_1⟩ := hQ43
          have N43 := Fr.app N42 Nq43
          replace E_b15 := E_b15.keep Kq43
          replace E_b16 := E_b16.keep Kq43
          replace E_b17 := E_b17.keep Kq43
          replace V_b17 := V_b17.keep Kq43 (ninS (Ne.symm ne_b15_b17) (ninS (Ne.symm ne_b16_b17) nin0))
          replace E_b18 := E_b18.keep Kq43
          replace V_b18 := V_b18.keep Kq43 (ninS (Ne.symm ne_b15_b18) (ninS (Ne.symm ne_b16_b18) nin0))
          replace E_b19 := E_b19.keep Kq43
          replace F_b19_downFalls := F_b19_downFalls.keep Kq43 (ninS (Ne.symm ne_b15_b19) (ninS (Ne.symm ne_b16_b19) nin0))
          replace F_b19_downCounts := F_b19_downCounts.keep Kq43 (ninS (Ne.symm ne_b15_b19) (ninS (Ne.symm ne_b16_b19) nin0))
          replace F_b19_upFalls := F_b19_upFalls.keep Kq43 (ninS (Ne.symm ne_b15_b19) (ninS (Ne.symm ne_b16_b19) nin0))
          replace F_b19_upCounts := F_b19_upCounts.keep Kq43 (ninS (Ne.symm ne_b15_b19) (ninS (Ne.symm ne_b16_b19) nin0))
          replace E_b4_20 := E_b4_20.keep Kq43
          replace V_b4_20 := V_b4_20.keep Kq43 (ninS (Ne.symm ne_b15_b4_20) (ninS (Ne.symm ne_b16_b4_20) nin0))
          replace E_b6_20 := E_b6_20.keep Kq43
          replace V_b6_20 := V_b6_20.keep Kq43 (ninS (Ne.symm ne_b15_b6_20) (ninS (Ne.symm ne_b16_b6_20) nin0))
          replace E_b8_20 := E_b8_20.keep Kq43
          replace V_b8_20 := V_b8_20.keep Kq43 (ninS (Ne.symm ne_b15_b8_20) (ninS (Ne.symm ne_b16_b8_20) nin0))
          replace E_b10_20 := E_b10_20.keep Kq43
          replace V_b10_20 := V_b10_20.keep Kq43 (ninS (Ne.symm ne_b15_b10_20) (ninS (Ne.symm ne_b16_b10_20) nin0))
          have V_b15 : Ary tr Z h43 b15 .double [(.double v40), (.double (0 : UInt64))] := by rw [← q_v40]; exact gq43_0
          have V_b16 : Ary tr Z h43 b16 .int [(.int n41), (.int (0 : Int32))] := by rw [← q_n41]; exact gq43_1
          replace Z0 := Nat.le_trans Z0 Kq43.1
          refine own_aload X43 hx hby rfl rfl at_189 (pc' := 191) rfl ?_
          refine own_iconst X43 hx hby (v := (0 : Int32)) (by decide) at_191 (pc' := 192) rfl ?_
          refine own_dload X43 hx hby rfl at_192 (pc' := 194) rfl ?_
          refine own_virtual X43 hx hby hZ (y := (⟨"com/example/bidfold/bidfold/Branching", "leansIn", "(ID)Z"⟩ : MethodName)) (y' := (⟨"com/example/bidfold/bidfold/Branching", "leansIn", "(ID)Z"⟩ : MethodName)) (C := "com/example/bidfold/bidfold/Branching") (rest := []) hown (hw _ (List.mem_of_getElem? (i := 42) rfl)) (hw _ (List.mem_of_getElem? (i := 43) rfl)) (notFace_of_selects (args := #[]) (mvT hZ (hw _ (List.mem_of_getElem? (i := 45) rfl)))) (hw _ (List.mem_of_getElem? (i := 45) rfl)) (hw _ (List.mem_of_getElem? (i := 44) rfl)) (hw _ (List.mem_of_getElem? (i := 46) rfl)) (hw _ (List.mem_of_getElem? (i := 10) rfl)) (by decide) (rm50 l Z a0 hw [] b19 v14 b8_20 b10_20 v40 (0 : UInt64) n41 (0 : Int32) b4_20 b6_20 v22 (0 : UInt64) n23 (0 : Int32) h43 n0 Z0 F_b19_upFalls F_b19_upCounts V_b8_20 V_b10_20 F_b19_downFalls F_b19_downCounts V_b4_20 V_b6_20 (fun h => (own_fq B_v40 (by decide) h).nn) P1.nn ((own_fpu B_v40 (by decide)).mul P1 (by decide)).nn (fun h => (own_fq B_v22 (by decide) h).nn) ((own_fpu B_v22 (by decide)).mul P0 (by decide)).nn) eH43 (by rw [hml]; rfl) (a := b19) E_b19 (argsL := [(.int (0 : Int32)), (.double v14)]) rfl (lenOf pd_4 rfl) rfl at_194 (pc' := 197) rfl (by decide) (W := 0) (Nat.le_of_eq rfl) (by decide) (by decide) (by decide) (fun T44 h44 Lc44 v44r X44 eH44 hQ44 => ?_)
          obtain ⟨rfl, Nq44, rfl⟩ := hQ44
          have N44 := Fr.app N43 Nq44
          dsimp only [Option.toList, List.cons_append, List.nil_append]
          generalize q_r45 : (if dle (FP.dmul (if 0 < n41 then (FP.ddiv v40 (FP.i2d n41)) else (4607182418800017408 : UInt64)) (FP.dsub (4607182418800017408 : UInt64) v14)) (FP.dmul (if 0 < n23 then (FP.ddiv v22 (FP.i2d n23)) else (4607182418800017408 : UInt64)) v14) then (1 : Int32) else (0 : Int32)) = r45
          refine own_iconst X44 hx hby (v := (0 : Int32)) (by decide) at_197 (pc' := 198) rfl ?_
          refine own_dload X44 hx hby rfl at_198 (pc' := 200) rfl ?_
          refine own_aload X44 hx hby rfl rfl at_200 (pc' := 202) rfl ?_
          refine own_aload X44 hx hby rfl rfl at_202 (pc' := 204) rfl ?_
          refine own_aload X44 hx hby rfl rfl at_204 (pc' := 206) rfl ?_
          refine own_aload X44 hx hby rfl rfl at_206 (pc' := 208) rfl ?_
          refine own_static X44 hx hby hZ (y := (⟨"com/example/bidfold/bidfold/BranchingLearnPinLaw", "expect", "(ID[D[I[D[I)Z"⟩ : MethodName)) (rest := [(.int r45)]) hown (hw _ (List.mem_of_getElem? (i := 50) rfl)) (hw _ (List.mem_of_getElem? (i := 51) rfl)) (hw _ (List.mem_of_getElem? (i := 52) rfl)) (hw _ (List.mem_of_getElem? (i := 39) rfl)) (by decide) (rm70 l Z a0 hw [] v14 b15 b16 b17 b18 v40 (0 : UInt64) n41 (0 : Int32) v22 (0 : UInt64) n23 (0 : Int32) h43 n0 Z0 V_b15 V_b16 V_b17 V_b18 (fun h => (own_fq B_v40 (by decide) h).nn) (fun h => (own_fq B_v22 (by decide) h).nn) P1.nn ((own_fpu B_v40 (by decide)).mul P1 (by decide)).nn ((own_fpu B_v22 (by decide)).mul P0 (by decide)).nn) eH44 (by rw [hml]; rfl) (argsL := [(.int (0 : Int32)), (.double v14), (.ref b15), (.ref b16), (.ref b17), (.ref b18)]) rfl (lenOf pd_5 rfl) rfl at_208 (pc' := 211) rfl (by decide) (W := 1) (Nat.le_of_eq rfl) (by decide) (by decide) (by decide) (fun T46 h46 Lc46 v46r X46 eH46 hQ46 => ?_)
          obtain ⟨rfl, Nq46, rfl⟩ := hQ46
          have N46 := Fr.app N44 Nq46
          dsimp only [Option.toList, List.cons_append, List.nil_append]
          generalize q_r47 : (if dle (FP.dmul (if 0 < n41 then (FP.ddiv v40 (FP.i2d n41)) else (4607182418800017408 : UInt64)) (FP.dsub (4607182418800017408 : UInt64) v14)) (FP.dmul (if 0 < n23 then (FP.ddiv v22 (FP.i2d n23)) else (4607182418800017408 : UInt64)) v14) then (1 : Int32) else (0 : Int32)) = r47
          have hk48 : r45 = r47 := q_r45.symm.trans q_r47
          refine own_icF X46 hx hby at_211 (own_ic_ne_p hk48) (pc' := 214) rfl ?_
          refine own_aload X46 hx hby rfl rfl at_214 (pc' := 216) rfl ?_
          refine own_iconst X46 hx hby (v := (1 : Int32)) (by decide) at_216 (pc' := 217) rfl ?_
          refine own_dload X46 hx hby rfl at_217 (pc' := 219) rfl ?_
          refine own_virtual X46 hx hby hZ (y := (⟨"com/example/bidfold/bidfold/Branching", "leansIn", "(ID)Z"⟩ : MethodName)) (y' := (⟨"com/example/bidfold/bidfold/Branching", "leansIn", "(ID)Z"⟩ : MethodName)) (C := "com/example/bidfold/bidfold/Branching") (rest := []) hown (hw _ (List.mem_of_getElem? (i := 42) rfl)) (hw _ (List.mem_of_getElem? (i := 43) rfl)) (notFace_of_selects (args := #[]) (mvT hZ (hw _ (List.mem_of_getElem? (i := 45) rfl)))) (hw _ (List.mem_of_getElem? (i := 45) rfl)) (hw _ (List.mem_of_getElem? (i := 44) rfl)) (hw _ (List.mem_of_getElem? (i := 46) rfl)) (hw _ (List.mem_of_getElem? (i := 10) rfl)) (by decide) (rm51 l Z a0 hw [] b19 v14 b8_20 b10_20 v40 (0 : UInt64) n41 (0 : Int32) b4_20 b6_20 v22 (0 : UInt64) n23 (0 : Int32) h43 n0 Z0 F_b19_upFalls F_b19_upCounts V_b8_20 V_b10_20 F_b19_downFalls F_b19_downCounts V_b4_20 V_b6_20 (fun h => (own_fq (own_bn0 40) (by decide) h).nn) P1.nn ((own_fpu (own_bn0 40) (by decide)).mul P1 (by decide)).nn (fun h => (own_fq (own_bn0 40) (by decide) h).nn) ((own_fpu (own_bn0 40) (by decide)).mul P0 (by decide)).nn) eH46 (by rw [hml]; rfl) (a := b19) E_b19 (argsL := [(.int (1 : Int32)), (.double v14)]) rfl (lenOf pd_4 rfl) rfl at_219 (pc' := 222) rfl (by decide) (W := 0) (Nat.le_of_eq rfl) (by decide) (by decide) (by decide) (fun T49 h49 Lc49 v49r X49 eH49 hQ49 => ?_)
          obtain ⟨rfl, Nq49, rfl⟩ := hQ49
          have N49 := Fr.app N46 Nq49
          dsimp only [Option.toList, List.cons_append, List.nil_append]
          generalize q_r50 : (if dle (FP.dmul (if 0 < (0 : Int32) then (FP.ddiv (0 : UInt64) (FP.i2d (0 : Int32))) else (4607182418800017408 : UInt64)) (FP.dsub (4607182418800017408 : UInt64) v14)) (FP.dmul (if 0 < (0 : Int32) then (FP.ddiv (0 : UInt64) (FP.i2d (0 : Int32))) else (4607182418800017408 : UInt64)) v14) then (1 : Int32) else (0 : Int32)) = r50
          refine own_iconst X49 hx hby (v := (1 : Int32)) (by decide) at_222 (pc' := 223) rfl ?_
          refine own_dload X49 hx hby rfl at_223 (pc' := 225) rfl ?_
          refine own_aload X49 hx hby rfl rfl at_225 (pc' := 227) rfl ?_
          refine own_aload X49 hx hby rfl rfl at_227 (pc' := 229) rfl ?_
          refine own_aload X49 hx hby rfl rfl at_229 (pc' := 231) rfl ?_
          refine own_aload X49 hx hby rfl rfl at_231 (pc' := 233) rfl ?_
          refine own_static X49 hx hby hZ (y := (⟨"com/example/bidfold/bidfold/BranchingLearnPinLaw", "expect", "(ID[D[I[D[I)Z"⟩ : MethodName)) (rest := [(.int r50)]) hown (hw _ (List.mem_of_getElem? (i := 50) rfl)) (hw _ (List.mem_of_getElem? (i := 51) rfl)) (hw _ (List.mem_of_getElem? (i := 52) rfl)) (hw _ (List.mem_of_getElem? (i := 39) rfl)) (by decide) (rm71 l Z a0 hw [] v14 b15 b16 b17 b18 v40 (0 : UInt64) n41 (0 : Int32) v22 (0 : UInt64) n23 (0 : Int32) h43 n0 Z0 V_b15 V_b16 V_b17 V_b18 (fun h => (own_fq (own_bn0 40) (by decide) h).nn) (fun h => (own_fq (own_bn0 40) (by decide) h).nn) P1.nn ((own_fpu (own_bn0 40) (by decide)).mul P1 (by decide)).nn ((own_fpu (own_bn0 40) (by decide)).mul P0 (by decide)).nn) eH49 (by rw [hml]; rfl) (argsL := [(.int (1 : Int32)), (.double v14), (.ref b15), (.ref b16), (.ref b17), (.ref b18)]) rfl (lenOf pd_5 rfl) rfl at_233 (pc' := 236) rfl (by decide) (W := 1) (Nat.le_of_eq rfl) (by decide) (by decide) (by decide) (fun T51 h51 Lc51 v51r X51 eH51 hQ51 => ?_)
          obtain ⟨rfl, Nq51, rfl⟩ := hQ51
          have N51 := Fr.app N49 Nq51
          dsimp only [Option.toList, List.cons_append, List.nil_append]
          generalize q_r52 : (if dle (FP.dmul (if 0 < (0 : Int32) then (FP.ddiv (0 : UInt64) (FP.i2d (0 : Int32))) else (4607182418800017408 : UInt64)) (FP.dsub (4607182418800017408 : UInt64) v14)) (FP.dmul (if 0 < (0 : Int32) then (FP.ddiv (0 : UInt64) (FP.i2d (0 : Int32))) else (4607182418800017408 : UInt64)) v14) then (1 : Int32) else (0 : Int32)) = r52
          have hk53 : r50 = r52 := q_r50.symm.trans q_r52
          refine own_icF X51 hx hby at_236 (own_ic_ne_p hk53) (pc' := 239) rfl ?_
          refine own_iconst X51 hx hby (v := (1 : Int32)) (by decide) at_239 (pc' := 240) rfl ?_
          refine own_goto X51 hx hby at_240 (by decide) (pc' := 244) (by decide) ?_
          exact own_retZ X51 hx hby Bd.notSynchronized Bd.returns (Or.inr rfl) at_244 (by decide) (by decide) eH51 ⟨rfl, N51⟩
      · refine own_aload X21 hx hby rfl rfl at_138 (pc' := 140) rfl ?_
        rcases own_ite01 q_w8 with rfl | rfl
        · refine own_iload X21 hx hby rfl at_140 (pc' := 142) rfl ?_
          refine own_iload X21 hx hby rfl at_142 (pc' := 144) rfl ?_
          refine own_dload X21 hx hby rfl at_144 (pc' := 146) rfl ?_
          refine own_dload X21 hx hby rfl at_146 (pc' := 148) rfl ?_
          refine own_virtual X21 hx hby hZ (y := (⟨"com/example/bidfold/bidfold/Branching", "learn", "(IZDD)V"⟩ : MethodName)) (y' := (⟨"com/example/bidfold/bidfold/Branching", "learn", "(IZDD)V"⟩ : MethodName)) (C := "com/example/bidfold/bidfold/Branching") (rest := []) hown (hw _ (List.mem_of_getElem? (i := 31) rfl)) (hw _ (List.mem_of_getElem? (i := 32) rfl)) (notFace_of_selects (args := #[]) (mvT hZ (hw _ (List.mem_of_getElem? (i := 34) rfl)))) (hw _ (List.mem_of_getElem? (i := 34) rfl)) (hw _ (List.mem_of_getElem? (i := 33) rfl)) (hw _ (List.mem_of_getElem? (i := 35) rfl)) (hw _ (List.mem_of_getElem? (i := 10) rfl)) (by decide) (rm310 l Z a0 hw [] b19 v11 v12 b4_20 b6_20 v22 (0 : UInt64) n23 (0 : Int32) h21 n0 Z0 F_b19_downFalls F_b19_downCounts V_b4_20 V_b6_20 (fun h1 h2 => (own_ld D_v11 D_v12 (own_fr _) (own_bn0 40) (by decide) h1 h2).1) (fun h1 h2 => (own_ld D_v11 D_v12 (own_fr _) (own_bn0 40) (by decide) h1 h2).2.1) g_b4_20 ne_b19_b4_20 (Ne.symm ne_b4_20_b6_20) g_b6_20 ne_b19_b6_20) eH21 (by rw [hml]; rfl) (a := b19) E_b19 (argsL := [(.int (1 : Int32)), (.int (0 : Int32)), (.double v11), (.double v12)]) rfl (lenOf pd_2 rfl) rfl at_148 (pc' := 151) rfl (by decide) (W := 0) (Nat.le_of_eq rfl) (by decide) (by decide) (by decide) (fun T54 h54 Lc54 v54r X54 eH54 hQ54 => ?_)
          obtain ⟨rfl, Nq54, Kq54, gq54_0, gq54_1⟩ := hQ54
          have N54 := Fr.app N21 Nq54
          replace E_b15 := E_b15.keep Kq54
          replace V_b15 := V_b15.keep Kq54 (ninS ne_b15_b4_20 (ninS ne_b15_b6_20 nin0))
          replace E_b16 := E_b16.keep Kq54
          replace V_b16 := V_b16.keep Kq54 (ninS ne_b16_b4_20 (ninS ne_b16_b6_20 nin0))
          replace E_b17 := E_b17.keep Kq54
          replace V_b17 := V_b17.keep Kq54 (ninS ne_b17_b4_20 (ninS ne_b17_b6_20 nin0))
          replace E_b18 := E_b18.keep Kq54
          replace V_b18 := V_b18.keep Kq54 (ninS ne_b18_b4_20 (ninS ne_b18_b6_20 nin0))
          replace E_b19 := E_b19.keep Kq54
          replace F_b19_downFalls := F_b19_downFalls.keep Kq54 (ninS ne_b19_b4_20 (ninS ne_b19_b6_20 nin0))
          replace F_b19_downCounts := F_b19_downCounts.keep Kq54 (ninS ne_b19_b4_20 (ninS ne_b19_b6_20 nin0))
          replace F_b19_upFalls := F_b19_upFalls.keep Kq54 (ninS ne_b19_b4_20 (ninS ne_b19_b6_20 nin0))
          replace F_b19_upCounts := F_b19_upCounts.keep Kq54 (ninS ne_b19_b4_20 (ninS ne_b19_b6_20 nin0))
          replace E_b4_20 := E_b4_20.keep Kq54
          replace E_b6_20 := E_b6_20.keep Kq54
          replace E_b8_20 := E_b8_20.keep Kq54
          replace V_b8_20 := V_b8_20.keep Kq54 (ninS (Ne.symm ne_b4_20_b8_20) (ninS (Ne.symm ne_b6_20_b8_20) nin0))
          replace E_b10_20 := E_b10_20.keep Kq54
          replace V_b10_20 := V_b10_20.keep Kq54 (ninS (Ne.symm ne_b4_20_b10_20) (ninS (Ne.symm ne_b6_20_b10_20) nin0))
          obtain ⟨v55, q_v55⟩ : ∃ z : UInt64, (if dle v11 (4517329193108106637 : UInt64) then (0 : UInt64) else (if dge v11 (4607182409792818153 : UInt64) then (0 : UInt64) else (FP.dadd (0 : UInt64) (FP.ddiv v12 v11)))) = z := ⟨_, rfl⟩
          have V_b4_20 : Ary tr Z h54 b4_20 .double [(.double v22), (.double v55)] := by rw [← q_v55]; exact gq54_0
          obtain ⟨n56, q_n56⟩ : ∃ z : Int32, (if dle v11 (4517329193108106637 : UInt64) then (0 : Int32) else (if dge v11 (4607182409792818153 : UInt64) then (0 : Int32) else ((0 : Int32) + (1 : Int32)))) = z := ⟨_, rfl⟩
          have V_b6_20 : Ary tr Z h54 b6_20 .int [(.int n23), (.int n56)] := by rw [← q_n56]; exact gq54_1
          replace Z0 := Nat.le_trans Z0 Kq54.1
          have B_v55 : Bn v55 41 := q_v55 ▸ own_tr (own_bn0 40) (fun h1 h2 => (own_ld D_v11 D_v12 (own_fr _) (own_bn0 40) (by decide) h1 h2).2.2)
          refine own_iload X54 hx hby rfl at_151 (pc' := 153) rfl ?_
          refine own_iload X54 hx hby rfl at_153 (pc' := 155) rfl ?_
          refine own_dload X54 hx hby rfl at_155 (pc' := 157) rfl ?_
          refine own_dload X54 hx hby rfl at_157 (pc' := 159) rfl ?_
          refine own_aload X54 hx hby rfl rfl at_159 (pc' := 161) rfl ?_
          refine own_aload X54 hx hby rfl rfl at_161 (pc' := 163) rfl ?_
          refine own_aload X54 hx hby rfl rfl at_163 (pc' := 165) rfl ?_
          refine own_aload X54 hx hby rfl rfl at_165 (pc' := 167) rfl ?_
          refine own_static X54 hx hby hZ (y := (⟨"com/example/bidfold/bidfold/BranchingLearnPinLaw", "model", "(IZDD[D[I[D[I)V"⟩ : MethodName)) (rest := []) hown (hw _ (List.mem_of_getElem? (i := 37) rfl)) (hw _ (List.mem_of_getElem? (i := 38) rfl)) (hw _ (List.mem_of_getElem? (i := 40) rfl)) (hw _ (List.mem_of_getElem? (i := 39) rfl)) (by decide) (rm400 l Z a0 hw [] v5 v6 b15 b16 b17 b18 (0 : UInt64) (0 : UInt64) (0 : Int32) (0 : Int32) h54 n0 Z0 V_b17 V_b18 (fun h1 h2 => (own_ld D_v5 D_v6 (own_fr _) (own_bn0 40) (by decide) h1 h2).1) (fun h1 h2 => (own_ld D_v5 D_v6 (own_fr _) (own_bn0 40) (by decide) h1 h2).2.1) g_b17 (Ne.symm ne_b17_b18) g_b18) eH54 (by rw [hml]; rfl) (argsL := [(.int (0 : Int32)), (.int (0 : Int32)), (.double v5), (.double v6), (.ref b15), (.ref b16), (.ref b17), (.ref b18)]) rfl (lenOf pd_3 rfl) rfl at_167 (pc' := 170) rfl (by decide) (W := 0) (Nat.le_of_eq rfl) (by decide) (by decide) (by decide) (fun T57 h57 Lc57 v57r X57 eH57 hQ57 => ?_)
          obtain ⟨rfl, Nq57, Kq57, gq57_0, gq57_1⟩ := hQ57
          have N57 := Fr.app N54 Nq57
          replace E_b15 := E_b15.keep Kq57
          replace V_b15 := V_b15.keep Kq57 (ninS ne_b15_b17 (ninS ne_b15_b18 nin0))
          replace E_b16 := E_b16.keep Kq57
          replace V_b16 := V_b16.keep Kq57 (ninS ne_b16_b17 (ninS ne_b16_b18 nin0))
          replace E_b17 := E_b17.keep Kq57
          replace E_b18 := E_b18.keep Kq57
          replace E_b19 := E_b19.keep Kq57
          replace F_b19_downFalls := F_b19_downFalls.keep Kq57 (ninS (Ne.symm ne_b17_b19) (ninS (Ne.symm ne_b18_b19) nin0))
          replace F_b19_downCounts := F_b19_downCounts.keep Kq57 (ninS (Ne.symm ne_b17_b19) (ninS (Ne.symm ne_b18_b19) nin0))
          replace F_b19_upFalls := F_b19_upFalls.keep Kq57 (ninS (Ne.symm ne_b17_b19) (ninS (Ne.symm ne_b18_b19) nin0))
          replace F_b19_upCounts := F_b19_upCounts.keep Kq57 (ninS (Ne.symm ne_b17_b19) (ninS (Ne.symm ne_b18_b19) nin0))
          replace E_b4_20 := E_b4_20.keep Kq57
          replace V_b4_20 := V_b4_20.keep Kq57 (ninS (Ne.symm ne_b17_b4_20) (ninS (Ne.symm ne_b18_b4_20) nin0))
          replace E_b6_20 := E_b6_20.keep Kq57
          replace V_b6_20 := V_b6_20.keep Kq57 (ninS (Ne.symm ne_b17_b6_20) (ninS (Ne.symm ne_b18_b6_20) nin0))
          replace E_b8_20 := E_b8_20.keep Kq57
          replace V_b8_20 := V_b8_20.keep Kq57 (ninS (Ne.symm ne_b17_b8_20) (ninS (Ne.symm ne_b18_b8_20) nin0))
          replace E_b10_20 := E_b10_20.keep Kq57
          replace V_b10_20 := V_b10_20.keep Kq57 (ninS (Ne.symm ne_b17_b10_20) (ninS (Ne.symm ne_b18_b10_20) nin0))
          have V_b17 : Ary tr Z h57 b17 .double [(.double v22), (.double (0 : UInt64))] := by rw [← q_v22]; exact gq57_0
          have V_b18 : Ary tr Z h57 b18 .int [(.int n23), (.int (0 : Int32))] := by rw [← q_n23]; exact gq57_1
          replace Z0 := Nat.le_trans Z0 Kq57.1
          refine own_iload X57 hx hby rfl at_170 (pc' := 172) rfl ?_
          refine own_iload X57 hx hby rfl at_172 (pc' := 174) rfl ?_
          refine own_dload X57 hx hby rfl at_174 (pc' := 176) rfl ?_
          refine own_dload X57 hx hby rfl at_176 (pc' := 178) rfl ?_
          refine own_aload X57 hx hby rfl rfl at_178 (pc' := 180) rfl ?_
          refine own_aload X57 hx hby rfl rfl at_180 (pc' := 182) rfl ?_
          refine own_aload X57 hx hby rfl rfl at_182 (pc' := 184) rfl ?_
          refine own_aload X57 hx hby rfl rfl at_184 (pc' := 186) rfl ?_
          refine own_static X57 hx hby hZ (y := (⟨"com/example/bidfold/bidfold/BranchingLearnPinLaw", "model", "(IZDD[D[I[D[I)V"⟩ : MethodName)) (rest := []) hown (hw _ (List.mem_of_getElem? (i := 37) rfl)) (hw _ (List.mem_of_getElem? (i := 38) rfl)) (hw _ (List.mem_of_getElem? (i := 40) rfl)) (hw _ (List.mem_of_getElem? (i := 39) rfl)) (by decide) (rm410 l Z a0 hw [] v11 v12 b15 b16 b17 b18 v22 (0 : UInt64) n23 (0 : Int32) h57 n0 Z0 V_b17 V_b18 (fun h1 h2 => (own_ld D_v11 D_v12 (own_fr _) (own_bn0 40) (by decide) h1 h2).1) (fun h1 h2 => (own_ld D_v11 D_v12 (own_fr _) (own_bn0 40) (by decide) h1 h2).2.1) g_b17 (Ne.symm ne_b17_b18) g_b18) eH57 (by rw [hml]; rfl) (argsL := [(.int (1 : Int32)), (.int (0 : Int32)), (.double v11), (.double v12), (.ref b15), (.ref b16), (.ref b17), (.ref b18)]) rfl (lenOf pd_3 rfl) rfl at_186 (pc' := 189) rfl (by decide) (W := 0) (Nat.le_of_eq rfl) (by decide) (by decide) (by decide) (fun T58 h58 Lc58 v58r X58 eH58 hQ58 => ?_)
          obtain ⟨rfl, Nq58, Kq58, gq58_0, gq58_1⟩ := hQ58
          have N58 := Fr.app N57 Nq58
          replace E_b15 := E_b15.keep Kq58
          replace V_b15 := V_b15.keep Kq58 (ninS ne_b15_b17 (ninS ne_b15_b18 nin0))
          replace E_b16 := E_b16.keep Kq58
          replace V_b16 := V_b16.keep Kq58 (ninS ne_b16_b17 (ninS ne_b16_b18 nin0))
          replace E_b17 := E_b17.keep Kq58
          replace E_b18 := E_b18.keep Kq58
          replace E_b19 := E_b19.keep Kq58
          replace F_b19_downFalls := F_b19_downFalls.keep Kq58 (ninS (Ne.symm ne_b17_b19) (ninS (Ne.symm ne_b18_b19) nin0))
          replace F_b19_downCounts := F_b19_downCounts.keep Kq58 (ninS (Ne.symm ne_b17_b19) (ninS (Ne.symm ne_b18_b19) nin0))
          replace F_b19_upFalls := F_b19_upFalls.keep Kq58 (ninS (Ne.symm ne_b17_b19) (ninS (Ne.symm ne_b18_b19) nin0))
          replace F_b19_upCounts := F_b19_upCounts.keep Kq58 (ninS (Ne.symm ne_b17_b19) (ninS (Ne.symm ne_b18_b19) nin0))
          replace E_b4_20 := E_b4_20.keep Kq58
          replace V_b4_20 := V_b4_20.keep Kq58 (ninS (Ne.symm ne_b17_b4_20) (ninS (Ne.symm ne_b18_b4_20) nin0))
          replace E_b6_20 := E_b6_20.keep Kq58
          replace V_b6_20 := V_b6_20.keep Kq58 (ninS (Ne.symm ne_b17_b6_20) (ninS (Ne.symm ne_b18_b6_20) nin0))
          replace E_b8_20 := E_b8_20.keep Kq58
          replace V_b8_20 := V_b8_20.keep Kq58 (ninS (Ne.symm ne_b17_b8_20) (ninS (Ne.symm ne_b18_b8_20) nin0))
          replace E_b10_20 := E_b10_20.keep Kq58
          replace V_b10_20 := V_b10_20.keep Kq58 (ninS (Ne.symm ne_b17_b10_20) (ninS (Ne.symm ne_b18_b10_20) nin0))
          have V_b17 : Ary tr Z h58 b17 .double [(.double v22), (.double v55)] := by rw [← q_v55]; exact gq58_0
          have V_b18 : Ary tr Z h58 b18 .int [(.int n23), (.int n56)] := by rw [← q_n56]; exact gq58_1
          replace Z0 := Nat.le_trans Z0 Kq58.1
          refine own_aload X58 hx hby rfl rfl at_189 (pc' := 191) rfl ?_
          refine own_iconst X58 hx hby (v := (0 : Int32)) (by decide) at_191 (pc' := 192) rfl ?_
          refine own_dload X58 hx hby rfl at_192 (pc' := 194) rfl ?_
          refine own_virtual X58 hx hby hZ (y := (⟨"com/example/bidfold/bidfold/Branching", "leansIn", "(ID)Z"⟩ : MethodName)) (y' := (⟨"com/example/bidfold/bidfold/Branching", "leansIn", "(ID)Z"⟩ : MethodName)) (C := "com/example/bidfold/bidfold/Branching") (rest := []) hown (hw _ (List.mem_of_getElem? (i := 42) rfl)) (hw _ (List.mem_of_getElem? (i := 43) rfl)) (notFace_of_selects (args := #[]) (mvT hZ (hw _ (List.mem_of_getElem? (i := 45) rfl)))) (hw _ (List.mem_of_getElem? (i := 45) rfl)) (hw _ (List.mem_of_getElem? (i := 44) rfl)) (hw _ (List.mem_of_getElem? (i := 46) rfl)) (hw _ (List.mem_of_getElem? (i := 10) rfl)) (by decide) (rm50 l Z a0 hw [] b19 v14 b8_20 b10_20 (0 : UInt64) (0 : UInt64) (0 : Int32) (0 : Int32) b4_20 b6_20 v22 v55 n23 n56 h58 n0 Z0 F_b19_upFalls F_b19_upCounts V_b8_20 V_b10_20 F_b19_downFalls F_b19_downCounts V_b4_20 V_b6_20 (fun h => (own_fq (own_bn0 40) (by decide) h).nn) P1.nn ((own_fpu (own_bn0 40) (by decide)).mul P1 (by decide)).nn (fun h => (own_fq B_v22 (by decide) h).nn) ((own_fpu B_v22 (by decide)).mul P0 (by decide)).nn) eH58 (by rw [hml]; rfl) (a := b19) E_b19 (argsL := [(.int (0 : Int32)), (.double v14)]) rfl (lenOf pd_4 rfl) rfl at_194 (pc' := 197) rfl (by decide) (W := 0) (Nat.le_of_eq rfl) (by decide) (by decide) (by decide) (fun T59 h59 Lc59 v59r X59 eH59 hQ59 => ?_)
          obtain ⟨rfl, Nq59, rfl⟩ := hQ59
          have N59 := Fr.app N58 Nq59
          dsimp only [Option.toList, List.cons_append, List.nil_append]
          generalize q_r60 : (if dle (FP.dmul (if 0 < (0 : Int32) then (FP.ddiv (0 : UInt64) (FP.i2d (0 : Int32))) else (4607182418800017408 : UInt64)) (FP.dsub (4607182418800017408 : UInt64) v14)) (FP.dmul (if 0 < n23 then (FP.ddiv v22 (FP.i2d n23)) else (4607182418800017408 : UInt64)) v14) then (1 : Int32) else (0 : Int32)) = r60
          refine own_iconst X59 hx hby (v := (0 : Int32)) (by decide) at_197 (pc' := 198) rfl ?_
          refine own_dload X59 hx hby rfl at_198 (pc' := 200) rfl ?_
          refine own_aload X59 hx hby rfl rfl at_200 (pc' := 202) rfl ?_
          refine own_aload X59 hx hby rfl rfl at_202 (pc' := 204) rfl ?_
          refine own_aload X59 hx hby rfl rfl at_204 (pc' := 206) rfl ?_
          refine own_aload X59 hx hby rfl rfl at_206 (pc' := 208) rfl ?_
          refine own_static X59 hx hby hZ (y := (⟨"com/example/bidfold/bidfold/BranchingLearnPinLaw", "expect", "(ID[D[I[D[I)Z"⟩ : MethodName)) (rest := [(.int r60)]) hown (hw _ (List.mem_of_getElem? (i := 50) rfl)) (hw _ (List.mem_of_getElem? (i := 51) rfl)) (hw _ (List.mem_of_getElem? (i := 52) rfl)) (hw _ (List.mem_of_getElem? (i := 39) rfl)) (by decide) (rm70 l Z a0 hw [] v14 b15 b16 b17 b18 (0 : UInt64) (0 : UInt64) (0 : Int32) (0 : Int32) v22 v55 n23 n56 h58 n0 Z0 V_b15 V_b16 V_b17 V_b18 (fun h => (own_fq (own_bn0 40) (by decide) h).nn) (fun h => (own_fq B_v22 (by decide) h).nn) P1.nn ((own_fpu (own_bn0 40) (by decide)).mul P1 (by decide)).nn ((own_fpu B_v22 (by decide)).mul P0 (by decide)).nn) eH59 (by rw [hml]; rfl) (argsL := [(.int (0 : Int32)), (.double v14), (.ref b15), (.ref b16), (.ref b17), (.ref b18)]) rfl (lenOf pd_5 rfl) rfl at_208 (pc' := 211) rfl (by decide) (W := 1) (Nat.le_of_eq rfl) (by decide) (by decide) (by decide) (fun T61 h61 Lc61 v61r X61 eH61 hQ61 => ?_)
          obtain ⟨rfl, Nq61, rfl⟩ := hQ61
          have N61 := Fr.app N59 Nq61
          dsimp only [Option.toList, List.cons_append, List.nil_append]
          generalize q_r62 : (if dle (FP.dmul (if 0 < (0 : Int32) then (FP.ddiv (0 : UInt64) (FP.i2d (0 : Int32))) else (4607182418800017408 : UInt64)) (FP.dsub (4607182418800017408 : UInt64) v14)) (FP.dmul (if 0 < n23 then (FP.ddiv v22 (FP.i2d n23)) else (4607182418800017408 : UInt64)) v14) then (1 : Int32) else (0 : Int32)) = r62
          have hk63 : r60 = r62 := q_r60.symm.trans q_r62
          refine own_icF X61 hx hby at_211 (own_ic_ne_p hk63) (pc' := 214) rfl ?_
          refine own_aload X61 hx hby rfl rfl at_214 (pc' := 216) rfl ?_
          refine own_iconst X61 hx hby (v := (1 : Int32)) (by decide) at_216 (pc' := 217) rfl ?_
          refine own_dload X61 hx hby rfl at_217 (pc' := 219) rfl ?_
          refine own_virtual X61 hx hby hZ (y := (⟨"com/example/bidfold/bidfold/Branching", "leansIn", "(ID)Z"⟩ : MethodName)) (y' := (⟨"com/example/bidfold/bidfold/Branching", "leansIn", "(ID)Z"⟩ : MethodName)) (C := "com/example/bidfold/bidfold/Branching") (rest := []) hown (hw _ (List.mem_of_getElem? (i := 42) rfl)) (hw _ (List.mem_of_getElem? (i := 43) rfl)) (notFace_of_selects (args := #[]) (mvT hZ (hw _ (List.mem_of_getElem? (i := 45) rfl)))) (hw _ (List.mem_of_getElem? (i := 45) rfl)) (hw _ (List.mem_of_getElem? (i := 44) rfl)) (hw _ (List.mem_of_getElem? (i := 46) rfl)) (hw _ (List.mem_of_getElem? (i := 10) rfl)) (by decide) (rm51 l Z a0 hw [] b19 v14 b8_20 b10_20 (0 : UInt64) (0 : UInt64) (0 : Int32) (0 : Int32) b4_20 b6_20 v22 v55 n23 n56 h58 n0 Z0 F_b19_upFalls F_b19_upCounts V_b8_20 V_b10_20 F_b19_downFalls F_b19_downCounts V_b4_20 V_b6_20 (fun h => (own_fq (own_bn0 40) (by decide) h).nn) P1.nn ((own_fpu (own_bn0 40) (by decide)).mul P1 (by decide)).nn (fun h => (own_fq B_v55 (by decide) h).nn) ((own_fpu B_v55 (by decide)).mul P0 (by decide)).nn) eH61 (by rw [hml]; rfl) (a := b19) E_b19 (argsL := [(.int (1 : Int32)), (.double v14)]) rfl (lenOf pd_4 rfl) rfl at_219 (pc' := 222) rfl (by decide) (W := 0) (Nat.le_of_eq rfl) (by decide) (by decide) (by decide) (fun T64 h64 Lc64 v64r X64 eH64 hQ64 => ?_)
          obtain ⟨rfl, Nq64, rfl⟩ := hQ64
          have N64 := Fr.app N61 Nq64
          dsimp only [Option.toList, List.cons_append, List.nil_append]
          generalize q_r65 : (if dle (FP.dmul (if 0 < (0 : Int32) then (FP.ddiv (0 : UInt64) (FP.i2d (0 : Int32))) else (4607182418800017408 : UInt64)) (FP.dsub (4607182418800017408 : UInt64) v14)) (FP.dmul (if 0 < n56 then (FP.ddiv v55 (FP.i2d n56)) else (4607182418800017408 : UInt64)) v14) then (1 : Int32) else (0 : Int32)) = r65
          refine own_iconst X64 hx hby (v := (1 : Int32)) (by decide) at_222 (pc' := 223) rfl ?_
          refine own_dload X64 hx hby rfl at_223 (pc' := 225) rfl ?_
          refine own_aload X64 hx hby rfl rfl at_225 (pc' := 227) rfl ?_
          refine own_aload X64 hx hby rfl rfl at_227 (pc' := 229) rfl ?_
          refine own_aload X64 hx hby rfl rfl at_229 (pc' := 231) rfl ?_
          refine own_aload X64 hx hby rfl rfl at_231 (pc' := 233) rfl ?_
          refine own_static X64 hx hby hZ (y := (⟨"com/example/bidfold/bidfold/BranchingLearnPinLaw", "expect", "(ID[D[I[D[I)Z"⟩ : MethodName)) (rest := [(.int r65)]) hown (hw _ (List.mem_of_getElem? (i := 50) rfl)) (hw _ (List.mem_of_getElem? (i := 51) rfl)) (hw _ (List.mem_of_getElem? (i := 52) rfl)) (hw _ (List.mem_of_getElem? (i := 39) rfl)) (by decide) (rm71 l Z a0 hw [] v14 b15 b16 b17 b18 (0 : UInt64) (0 : UInt64) (0 : Int32) (0 : Int32) v22 v55 n23 n56 h58 n0 Z0 V_b15 V_b16 V_b17 V_b18 (fun h => (own_fq (own_bn0 40) (by decide) h).nn) (fun h => (own_fq B_v55 (by decide) h).nn) P1.nn ((own_fpu (own_bn0 40) (by decide)).mul P1 (by decide)).nn ((own_fpu B_v55 (by decide)).mul P0 (by decide)).nn) eH64 (by rw [hml]; rfl) (argsL := [(.int (1 : Int32)), (.double v14), (.ref b15), (.ref b16), (.ref b17), (.ref b18)]) rfl (lenOf pd_5 rfl) rfl at_233 (pc' := 236) rfl (by decide) (W := 1) (Nat.le_of_eq rfl) (by decide) (by decide) (by decide) (fun T66 h66 Lc66 v66r X66 eH66 hQ66 => ?_)
          obtain ⟨rfl, Nq66, rfl⟩ := hQ66
          have N66 := Fr.app N64 Nq66
          dsimp only [Option.toList, List.cons_append, List.nil_append]
          generalize q_r67 : (if dle (FP.dmul (if 0 < (0 : Int32) then (FP.ddiv (0 : UInt64) (FP.i2d (0 : Int32))) else (4607182418800017408 : UInt64)) (FP.dsub (4607182418800017408 : UInt64) v14)) (FP.dmul (if 0 < n56 then (FP.ddiv v55 (FP.i2d n56)) else (4607182418800017408 : UInt64)) v14) then (1 : Int32) else (0 : Int32)) = r67
          have hk68 : r65 = r67 := q_r65.symm.trans q_r67
          refine own_icF X66 hx hby at_236 (own_ic_ne_p hk68) (pc' := 239) rfl ?_
          refine own_iconst X66 hx hby (v := (1 : Int32)) (by decide) at_239 (pc' := 240) rfl ?_
          refine own_goto X66 hx hby at_240 (by decide) (pc' := 244) (by decide) ?_
          exact own_retZ X66 hx hby Bd.notSynchronized Bd.returns (Or.inr rfl) at_244 (by decide) (by decide) eH66 ⟨rfl, N66⟩
        · refine own_iload X21 hx hby rfl at_140 (pc' := 142) rfl ?_
          refine own_iload X21 hx hby rfl at_142 (pc' := 144) rfl ?_
          refine own_dload X21 hx hby rfl at_144 (pc' := 146) rfl ?_
          refine own_dload X21 hx hby rfl at_146 (pc' := 148) rfl ?_
          refine own_virtual X21 hx hby hZ (y := (⟨"com/example/bidfold/bidfold/Branching", "learn", "(IZDD)V"⟩ : MethodName)) (y' := (⟨"com/example/bidfold/bidfold/Branching", "learn", "(IZDD)V"⟩ : MethodName)) (C := "com/example/bidfold/bidfold/Branching") (rest := []) hown (hw _ (List.mem_of_getElem? (i := 31) rfl)) (hw _ (List.mem_of_getElem? (i := 32) rfl)) (notFace_of_selects (args := #[]) (mvT hZ (hw _ (List.mem_of_getElem? (i := 34) rfl)))) (hw _ (List.mem_of_getElem? (i := 34) rfl)) (hw _ (List.mem_of_getElem? (i := 33) rfl)) (hw _ (List.mem_of_getElem? (i := 35) rfl)) (hw _ (List.mem_of_getElem? (i := 10) rfl)) (by decide) (rm311 l Z a0 hw [] b19 v11 v12 b8_20 b10_20 (0 : UInt64) (0 : UInt64) (0 : Int32) (0 : Int32) h21 n0 Z0 F_b19_upFalls F_b19_upCounts V_b8_20 V_b10_20 (fun h1 h2 => (own_lu D_v11 D_v12 (own_fr _) (own_bn0 40) (by decide) h1 h2).1) (fun h1 h2 => (own_lu D_v11 D_v12 (own_fr _) (own_bn0 40) (by decide) h1 h2).2.1) (fun h1 h2 => (own_lu D_v11 D_v12 (own_fr _) (own_bn0 40) (by decide) h1 h2).2.2.1) g_b8_20 ne_b19_b8_20 (Ne.symm ne_b8_20_b10_20) g_b10_20 ne_b19_b10_20) eH21 (by rw [hml]; rfl) (a := b19) E_b19 (argsL := [(.int (1 : Int32)), (.int (1 : Int32)), (.double v11), (.double v12)]) rfl (lenOf pd_2 rfl) rfl at_148 (pc' := 151) rfl (by decide) (W := 0) (Nat.le_of_eq rfl) (by decide) (by decide) (by decide) (fun T69 h69 Lc69 v69r X69 eH69 hQ69 => ?_)
          obtain ⟨rfl, Nq69, Kq69, gq69_0, gq69_1⟩ := hQ69
          have N69 := Fr.app N21 Nq69
          replace E_b15 := E_b15.keep Kq69
          replace V_b15 := V_b15.keep Kq69 (ninS ne_b15_b8_20 (ninS ne_b15_b10_20 nin0))
          replace E_b16 := E_b16.keep Kq69
          replace V_b16 := V_b16.keep Kq69 (ninS ne_b16_b8_20 (ninS ne_b16_b10_20 nin0))
          replace E_b17 := E_b17.keep Kq69
          replace V_b17 := V_b17.keep Kq69 (ninS ne_b17_b8_20 (ninS ne_b17_b10_20 nin0))
          replace E_b18 := E_b18.keep Kq69
          replace V_b18 := V_b18.keep Kq69 (ninS ne_b18_b8_20 (ninS ne_b18_b10_20 nin0))
          replace E_b19 := E_b19.keep Kq69
          replace F_b19_downFalls := F_b19_downFalls.keep Kq69 (ninS ne_b19_b8_20 (ninS ne_b19_b10_20 nin0))
          replace F_b19_downCounts := F_b19_downCounts.keep Kq69 (ninS ne_b19_b8_20 (ninS ne_b19_b10_20 nin0))
          replace F_b19_upFalls := F_b19_upFalls.keep Kq69 (ninS ne_b19_b8_20 (ninS ne_b19_b10_20 nin0))
          replace F_b19_upCounts := F_b19_upCounts.keep Kq69 (ninS ne_b19_b8_20 (ninS ne_b19_b10_20 nin0))
          replace E_b4_20 := E_b4_20.keep Kq69
          replace V_b4_20 := V_b4_20.keep Kq69 (ninS ne_b4_20_b8_20 (ninS ne_b4_20_b10_20 nin0))
          replace E_b6_20 := E_b6_20.keep Kq69
          replace V_b6_20 := V_b6_20.keep Kq69 (ninS ne_b6_20_b8_20 (ninS ne_b6_20_b10_20 nin0))
          replace E_b8_20 := E_b8_20.keep Kq69
          replace E_b10_20 := E_b10_20.keep Kq69
          obtain ⟨v70, q_v70⟩ : ∃ z : UInt64, (if dle v11 (4517329193108106637 : UInt64) then (0 : UInt64) else (if dge v11 (4607182409792818153 : UInt64) then (0 : UInt64) else (FP.dadd (0 : UInt64) (FP.ddiv v12 (FP.dsub (4607182418800017408 : UInt64) v11))))) = z := ⟨_, rfl⟩
          have V_b8_20 : Ary tr Z h69 b8_20 .double [(.double (0 : UInt64)), (.double v70)] := by rw [← q_v70]; exact gq69_0
          obtain ⟨n71, q_n71⟩ : ∃ z : Int32, (if dle v11 (4517329193108106637 : UInt64) then (0 : Int32) else (if dge v11 (4607182409792818153 : UInt64) then (0 : Int32) else ((0 : Int32) + (1 : Int32)))) = z := ⟨_, rfl⟩
          have V_b10_20 : Ary tr Z h69 b10_20 .int [(.int (0 : Int32)), (.int n71)] := by rw [← q_n71]; exact gq69_1
          replace Z0 := Nat.le_trans Z0 Kq69.1
          have B_v70 : Bn v70 41 := q_v70 ▸ own_tr (own_bn0 40) (fun h1 h2 => (own_lu D_v11 D_v12 (own_fr _) (own_bn0 40) (by decide) h1 h2).2.2.2)
          refine own_iload X69 hx hby rfl at_151 (pc' := 153) rfl ?_
          refine own_iload X69 hx hby rfl at_153 (pc' := 155) rfl ?_
          refine own_dload X69 hx hby rfl at_155 (pc' := 157) rfl ?_
          refine own_dload X69 hx hby rfl at_157 (pc' := 159) rfl ?_
          refine own_aload X69 hx hby rfl rfl at_159 (pc' := 161) rfl ?_
          refine own_aload X69 hx hby rfl rfl at_161 (pc' := 163) rfl ?_
          refine own_aload X69 hx hby rfl rfl at_163 (pc' := 165) rfl ?_
          refine own_aload X69 hx hby rfl rfl at_165 (pc' := 167) rfl ?_
          refine own_static X69 hx hby hZ (y := (⟨"com/example/bidfold/bidfold/BranchingLearnPinLaw", "model", "(IZDD[D[I[D[I)V"⟩ : MethodName)) (rest := []) hown (hw _ (List.mem_of_getElem? (i := 37) rfl)) (hw _ (List.mem_of_getElem? (i := 38) rfl)) (hw _ (List.mem_of_getElem? (i := 40) rfl)) (hw _ (List.mem_of_getElem? (i := 39) rfl)) (by decide) (rm400 l Z a0 hw [] v5 v6 b15 b16 b17 b18 (0 : UInt64) (0 : UInt64) (0 : Int32) (0 : Int32) h69 n0 Z0 V_b17 V_b18 (fun h1 h2 => (own_ld D_v5 D_v6 (own_fr _) (own_bn0 40) (by decide) h1 h2).1) (fun h1 h2 => (own_ld D_v5 D_v6 (own_fr _) (own_bn0 40) (by decide) h1 h2).2.1) g_b17 (Ne.symm ne_b17_b18) g_b18) eH69 (by rw [hml]; rfl) (argsL := [(.int (0 : Int32)), (.int (0 : Int32)), (.double v5), (.double v6), (.ref b15), (.ref b16), (.ref b17), (.ref b18)]) rfl (lenOf pd_3 rfl) rfl at_167 (pc' := 170) rfl (by decide) (W := 0) (Nat.le_of_eq rfl) (by decide) (by decide) (by decide) (fun T72 h72 Lc72 v72r X72 eH72 hQ72 => ?_)
          obtain ⟨rfl, Nq72, Kq72, gq72_0, gq72_1⟩ := hQ72
          have N72 := Fr.app N69 Nq72
          replace E_b15 := E_b15.keep Kq72
          replace V_b15 := V_b15.keep Kq72 (ninS ne_b15_b17 (ninS ne_b15_b18 nin0))
          replace E_b16 := E_b16.keep Kq72
          replace V_b16 := V_b16.keep Kq72 (ninS ne_b16_b17 (ninS ne_b16_b18 nin0))
          replace E_b17 := E_b17.keep Kq72
          replace E_b18 := E_b18.keep Kq72
          replace E_b19 := E_b19.keep Kq72
          replace F_b19_downFalls := F_b19_downFalls.keep Kq72 (ninS (Ne.symm ne_b17_b19) (ninS (Ne.symm ne_b18_b19) nin0))
          replace F_b19_downCounts := F_b19_downCounts.keep Kq72 (ninS (Ne.symm ne_b17_b19) (ninS (Ne.symm ne_b18_b19) nin0))
          replace F_b19_upFalls := F_b19_upFalls.keep Kq72 (ninS (Ne.symm ne_b17_b19) (ninS (Ne.symm ne_b18_b19) nin0))
          replace F_b19_upCounts := F_b19_upCounts.keep Kq72 (ninS (Ne.symm ne_b17_b19) (ninS (Ne.symm ne_b18_b19) nin0))
          replace E_b4_20 := E_b4_20.keep Kq72
          replace V_b4_20 := V_b4_20.keep Kq72 (ninS (Ne.symm ne_b17_b4_20) (ninS (Ne.symm ne_b18_b4_20) nin0))
          replace E_b6_20 := E_b6_20.keep Kq72
          replace V_b6_20 := V_b6_20.keep Kq72 (ninS (Ne.symm ne_b17_b6_20) (ninS (Ne.symm ne_b18_b6_20) nin0))
          replace E_b8_20 := E_b8_20.keep Kq72
          replace V_b8_20 := V_b8_20.keep Kq72 (ninS (Ne.symm ne_b17_b8_20) (ninS (Ne.symm ne_b18_b8_20) nin0))
          replace E_b10_20 := E_b10_20.keep Kq72
          replace V_b10_20 := V_b10_20.keep Kq72 (ninS (Ne.symm ne_b17_b10_20) (ninS (Ne.symm ne_b18_b10_20) nin0))
          have V_b17 : Ary tr Z h72 b17 .double [(.double v22), (.double (0 : UInt64))] := by rw [← q_v22]; exact gq72_0
          have V_b18 : Ary tr Z h72 b18 .int [(.int n23), (.int (0 : Int32))] := by rw [← q_n23]; exact gq72_1
          replace Z0 := Nat.le_trans Z0 Kq72.1
          refine own_iload X72 hx hby rfl at_170 (pc' := 172) rfl ?_
          refine own_iload X72 hx hby rfl at_172 (pc' := 174) rfl ?_
          refine own_dload X72 hx hby rfl at_174 (pc' := 176) rfl ?_
          refine own_dload X72 hx hby rfl at_176 (pc' := 178) rfl ?_
          refine own_aload X72 hx hby rfl rfl at_178 (pc' := 180) rfl ?_
          refine own_aload X72 hx hby rfl rfl at_180 (pc' := 182) rfl ?_
          refine own_aload X72 hx hby rfl rfl at_182 (pc' := 184) rfl ?_
          refine own_aload X72 hx hby rfl rfl at_184 (pc' := 186) rfl ?_
          refine own_static X72 hx hby hZ (y := (⟨"com/example/bidfold/bidfold/BranchingLearnPinLaw", "model", "(IZDD[D[I[D[I)V"⟩ : MethodName)) (rest := []) hown (hw _ (List.mem_of_getElem? (i := 37) rfl)) (hw _ (List.mem_of_getElem? (i := 38) rfl)) (hw _ (List.mem_of_getElem? (i := 40) rfl)) (hw _ (List.mem_of_getElem? (i := 39) rfl)) (by decide) (rm411 l Z a0 hw [] v11 v12 b15 b16 b17 b18 (0 : UInt64) (0 : UInt64) (0 : Int32) (0 : Int32) h72 n0 Z0 V_b15 V_b16 (fun h1 h2 => (own_lu D_v11 D_v12 (own_fr _) (own_bn0 40) (by decide) h1 h2).1) (fun h1 h2 => (own_lu D_v11 D_v12 (own_fr _) (own_bn0 40) (by decide) h1 h2).2.1) (fun h1 h2 => (own_lu D_v11 D_v12 (own_fr _) (own_bn0 40) (by decide) h1 h2).2.2.1) g_b15 (Ne.symm ne_b15_b16) g_b16) eH72 (by rw [hml]; rfl) (argsL := [(.int (1 : Int32)), (.int (1 : Int32)), (.double v11), (.double v12), (.ref b15), (.ref b16), (.ref b17), (.ref b18)]) rfl (lenOf pd_3 rfl) rfl at_186 (pc' := 189) rfl (by decide) (W := 0) (Nat.le_of_eq rfl) (by decide) (by decide) (by decide) (fun T73 h73 Lc73 v73r X73 eH73 hQ73 => ?_)
          obtain ⟨rfl, Nq73, Kq73, gq73_0, gq73_1⟩ := hQ73
          have N73 := Fr.app N72 Nq73
          replace E_b15 := E_b15.keep Kq73
          replace E_b16 := E_b16.keep Kq73
          replace E_b17 := E_b17.keep Kq73
          replace V_b17 := V_b17.keep Kq73 (ninS (Ne.symm ne_b15_b17) (ninS (Ne.symm ne_b16_b17) nin0))
          replace E_b18 := E_b18.keep Kq73
          replace V_b18 := V_b18.keep Kq73 (ninS (Ne.symm ne_b15_b18) (ninS (Ne.symm ne_b16_b18) nin0))
          replace E_b19 := E_b19.keep Kq73
          replace F_b19_downFalls := F_b19_downFalls.keep Kq73 (ninS (Ne.symm ne_b15_b19) (ninS (Ne.symm ne_b16_b19) nin0))
          replace F_b19_downCounts := F_b19_downCounts.keep Kq73 (ninS (Ne.symm ne_b15_b19) (ninS (Ne.symm ne_b16_b19) nin0))
          replace F_b19_upFalls := F_b19_upFalls.keep Kq73 (ninS (Ne.symm ne_b15_b19) (ninS (Ne.symm ne_b16_b19) nin0))
          replace F_b19_upCounts := F_b19_upCounts.keep Kq73 (ninS (Ne.symm ne_b15_b19) (ninS (Ne.symm ne_b16_b19) nin0))
          replace E_b4_20 := E_b4_20.keep Kq73
          replace V_b4_20 := V_b4_20.keep Kq73 (ninS (Ne.symm ne_b15_b4_20) (ninS (Ne.symm ne_b16_b4_20) nin0))
          replace E_b6_20 := E_b6_20.keep Kq73
          replace V_b6_20 := V_b6_20.keep Kq73 (ninS (Ne.symm ne_b15_b6_20) (ninS (Ne.symm ne_b16_b6_20) nin0))
          replace E_b8_20 := E_b8_20.keep Kq73
          replace V_b8_20 := V_b8_20.keep Kq73 (ninS (Ne.symm ne_b15_b8_20) (ninS (Ne.symm ne_b16_b8_20) nin0))
          replace E_b10_20 := E_b10_20.keep Kq73
          replace V_b10_20 := V_b10_20.keep Kq73 (ninS (Ne.symm ne_b15_b10_20) (ninS (Ne.symm ne_b16_b10_20) nin0))
          have V_b15 : Ary tr Z h73 b15 .double [(.double (0 : UInt64)), (.double v70)] := by rw [← q_v70]; exact gq73_0
          have V_b16 : Ary tr Z h73 b16 .int [(.int (0 : Int32)), (.int n71)] := by rw [← q_n71]; exact gq73_1
          replace Z0 := Nat.le_trans Z0 Kq73.1
          refine own_aload X73 hx hby rfl rfl at_189 (pc' := 191) rfl ?_
          refine own_iconst X73 hx hby (v := (0 : Int32)) (by decide) at_191 (pc' := 192) rfl ?_
          refine own_dload X73 hx hby rfl at_192 (pc' := 194) rfl ?_
          refine own_virtual X73 hx hby hZ (y := (⟨"com/example/bidfold/bidfold/Branching", "leansIn", "(ID)Z"⟩ : MethodName)) (y' := (⟨"com/example/bidfold/bidfold/Branching", "leansIn", "(ID)Z"⟩ : MethodName)) (C := "com/example/bidfold/bidfold/Branching") (rest := []) hown (hw _ (List.mem_of_getElem? (i := 42) rfl)) (hw _ (List.mem_of_getElem? (i := 43) rfl)) (notFace_of_selects (args := #[]) (mvT hZ (hw _ (List.mem_of_getElem? (i := 45) rfl)))) (hw _ (List.mem_of_getElem? (i := 45) rfl)) (hw _ (List.mem_of_getElem? (i := 44) rfl)) (hw _ (List.mem_of_getElem? (i := 46) rfl)) (hw _ (List.mem_of_getElem? (i := 10) rfl)) (by decide) (rm50 l Z a0 hw [] b19 v14 b8_20 b10_20 (0 : UInt64) v70 (0 : Int32) n71 b4_20 b6_20 v22 (0 : UInt64) n23 (0 : Int32) h73 n0 Z0 F_b19_upFalls F_b19_upCounts V_b8_20 V_b10_20 F_b19_downFalls F_b19_downCounts V_b4_20 V_b6_20 (fun h => (own_fq (own_bn0 40) (by decide) h).nn) P1.nn ((own_fpu (own_bn0 40) (by decide)).mul P1 (by decide)).nn (fun h => (own_fq B_v22 (by decide) h).nn) ((own_fpu B_v22 (by decide)).mul P0 (by decide)).nn) eH73 (by rw [hml]; rfl) (a := b19) E_b19 (argsL := [(.int (0 : Int32)), (.double v14)]) rfl (lenOf pd_4 rfl) rfl at_194 (pc' := 197) rfl (by decide) (W := 0) (Nat.le_of_eq rfl) (by decide) (by decide) (by decide) (fun T74 h74 Lc74 v74r X74 eH74 hQ74 => ?_)
          obtain ⟨rfl, Nq74, rfl⟩ := hQ74
          have N74 := Fr.app N73 Nq74
          dsimp only [Option.toList, List.cons_append, List.nil_append]
          generalize q_r75 : (if dle (FP.dmul (if 0 < (0 : Int32) then (FP.ddiv (0 : UInt64) (FP.i2d (0 : Int32))) else (4607182418800017408 : UInt64)) (FP.dsub (4607182418800017408 : UInt64) v14)) (FP.dmul (if 0 < n23 then (FP.ddiv v22 (FP.i2d n23)) else (4607182418800017408 : UInt64)) v14) then (1 : Int32) else (0 : Int32)) = r75
          refine own_iconst X74 hx hby (v := (0 : Int32)) (by decide) at_197 (pc' := 198) rfl ?_
          refine own_dload X74 hx hby rfl at_198 (pc' := 200) rfl ?_
          refine own_aload X74 hx hby rfl rfl at_200 (pc' := 202) rfl ?_
          refine own_aload X74 hx hby rfl rfl at_202 (pc' := 204) rfl ?_
          refine own_aload X74 hx hby rfl rfl at_204 (pc' := 206) rfl ?_
          refine own_aload X74 hx hby rfl rfl at_206 (pc' := 208) rfl ?_
          refine own_static X74 hx hby hZ (y := (⟨"com/example/bidfold/bidfold/BranchingLearnPinLaw", "expect", "(ID[D[I[D[I)Z"⟩ : MethodName)) (rest := [(.int r75)]) hown (hw _ (List.mem_of_getElem? (i := 50) rfl)) (hw _ (List.mem_of_getElem? (i := 51) rfl)) (hw _ (List.mem_of_getElem? (i := 52) rfl)) (hw _ (List.mem_of_getElem? (i := 39) rfl)) (by decide) (rm70 l Z a0 hw [] v14 b15 b16 b17 b18 (0 : UInt64) v70 (0 : Int32) n71 v22 (0 : UInt64) n23 (0 : Int32) h73 n0 Z0 V_b15 V_b16 V_b17 V_b18 (fun h => (own_fq (own_bn0 40) (by decide) h).nn) (fun h => (own_fq B_v22 (by decide) h).nn) P1.nn ((own_fpu (own_bn0 40) (by decide)).mul P1 (by decide)).nn ((own_fpu B_v22 (by decide)).mul P0 (by decide)).nn) eH74 (by rw [hml]; rfl) (argsL := [(.int (0 : Int32)), (.double v14), (.ref b15), (.ref b16), (.ref b17), (.ref b18)]) rfl (lenOf pd_5 rfl) rfl at_208 (pc' := 211) rfl (by decide) (W := 1) (Nat.le_of_eq rfl) (by decide) (by decide) (by decide) (fun T76 h76 Lc76 v76r X76 eH76 hQ76 => ?_)
          obtain ⟨rfl, Nq76, rfl⟩ := hQ76
          have N76 := Fr.app N74 Nq76
          dsimp only [Option.toList, List.cons_append, List.nil_append]
          generalize q_r77 : (if dle (FP.dmul (if 0 < (0 : Int32) then (FP.ddiv (0 : UInt64) (FP.i2d (0 : Int32))) else (4607182418800017408 : UInt64)) (FP.dsub (4607182418800017408 : UInt64) v14)) (FP.dmul (if 0 < n23 then (FP.ddiv v22 (FP.i2d n23)) else (4607182418800017408 : UInt64)) v14) then (1 : Int32) else (0 : Int32)) = r77
          have hk78 : r75 = r77 := q_r75.symm.trans q_r77
          refine own_icF X76 hx hby at_211 (own_ic_ne_p hk78) (pc' := 214) rfl ?_
          refine own_aload X76 hx hby rfl rfl at_214 (pc' := 216) rfl ?_
          refine own_iconst X76 hx hby (v := (1 : Int32)) (by decide) at_216 (pc' := 217) rfl ?_
          refine own_dload X76 hx hby rfl at_217 (pc' := 219) rfl ?_
          refine own_virtual X76 hx hby hZ (y := (⟨"com/example/bidfold/bidfold/Branching", "leansIn", "(ID)Z"⟩ : MethodName)) (y' := (⟨"com/example/bidfold/bidfold/Branching", "leansIn", "(ID)Z"⟩ : MethodName)) (C := "com/example/bidfold/bidfold/Branching") (rest := []) hown (hw _ (List.mem_of_getElem? (i := 42) rfl)) (hw _ (List.mem_of_getElem? (i := 43) rfl)) (notFace_of_selects (args := #[]) (mvT hZ (hw _ (List.mem_of_getElem? (i := 45) rfl)))) (hw _ (List.mem_of_getElem? (i := 45) rfl)) (hw _ (List.mem_of_getElem? (i := 44) rfl)) (hw _ (List.mem_of_getElem? (i := 46) rfl)) (hw _ (List.mem_of_getElem? (i := 10) rfl)) (by decide) (rm51 l Z a0 hw [] b19 v14 b8_20 b10_20 (0 : UInt64) v70 (0 : Int32) n71 b4_20 b6_20 v22 (0 : UInt64) n23 (0 : Int32) h73 n0 Z0 F_b19_upFalls F_b19_upCounts V_b8_20 V_b10_20 F_b19_downFalls F_b19_downCounts V_b4_20 V_b6_20 (fun h => (own_fq B_v70 (by decide) h).nn) P1.nn ((own_fpu B_v70 (by decide)).mul P1 (by decide)).nn (fun h => (own_fq (own_bn0 40) (by decide) h).nn) ((own_fpu (own_bn0 40) (by decide)).mul P0 (by decide)).nn) eH76 (by rw [hml]; rfl) (a := b19) E_b19 (argsL := [(.int (1 : Int32)), (.double v14)]) rfl (lenOf pd_4 rfl) rfl at_219 (pc' := 222) rfl (by decide) (W := 0) (Nat.le_of_eq rfl) (by decide) (by decide) (by decide) (fun T79 h79 Lc79 v79r X79 eH79 hQ79 => ?_)
          obtain ⟨rfl, Nq79, rfl⟩ := hQ79
          have N79 := Fr.app N76 Nq79
          dsimp only [Option.toList, List.cons_append, List.nil_append]
          generalize q_r80 : (if dle (FP.dmul (if 0 < n71 then (FP.ddiv v70 (FP.i2d n71)) else (4607182418800017408 : UInt64)) (FP.dsub (4607182418800017408 : UInt64) v14)) (FP.dmul (if 0 < (0 : Int32) then (FP.ddiv (0 : UInt64) (FP.i2d (0 : Int32))) else (4607182418800017408 : UInt64)) v14) then (1 : Int32) else (0 : Int32)) = r80
          refine own_iconst X79 hx hby (v := (1 : Int32)) (by decide) at_222 (pc' := 223) rfl ?_
          refine own_dload X79 hx hby rfl at_223 (pc' := 225) rfl ?_
          refine own_aload X79 hx hby rfl rfl at_225 (pc' := 227) rfl ?_
          refine own_aload X79 hx hby rfl rfl at_227 (pc' := 229) rfl ?_
          refine own_aload X79 hx hby rfl rfl at_229 (pc' := 231) rfl ?_
          refine own_aload X79 hx hby rfl rfl at_231 (pc' := 233) rfl ?_
          refine own_static X79 hx hby hZ (y := (⟨"com/example/bidfold/bidfold/BranchingLearnPinLaw", "expect", "(ID[D[I[D[I)Z"⟩ : MethodName)) (rest := [(.int r80)]) hown (hw _ (List.mem_of_getElem? (i := 50) rfl)) (hw _ (List.mem_of_getElem? (i := 51) rfl)) (hw _ (List.mem_of_getElem? (i := 52) rfl)) (hw _ (List.mem_of_getElem? (i := 39) rfl)) (by decide) (rm71 l Z a0 hw [] v14 b15 b16 b17 b18 (0 : UInt64) v70 (0 : Int32) n71 v22 (0 : UInt64) n23 (0 : Int32) h73 n0 Z0 V_b15 V_b16 V_b17 V_b18 (fun h => (own_fq B_v70 (by decide) h).nn) (fun h => (own_fq (own_bn0 40) (by decide) h).nn) P1.nn ((own_fpu B_v70 (by decide)).mul P1 (by decide)).nn ((own_fpu (own_bn0 40) (by decide)).mul P0 (by decide)).nn) eH79 (by rw [hml]; rfl) (argsL := [(.int (1 : Int32)), (.double v14), (.ref b15), (.ref b16), (.ref b17), (.ref b18)]) rfl (lenOf pd_5 rfl) rfl at_233 (pc' := 236) rfl (by decide) (W := 1) (Nat.le_of_eq rfl) (by decide) (by decide) (by decide) (fun T81 h81 Lc81 v81r X81 eH81 hQ81 => ?_)
          obtain ⟨rfl, Nq81, rfl⟩ := hQ81
          have N81 := Fr.app N79 Nq81
          dsimp only [Option.toList, List.cons_append, List.nil_append]
          generalize q_r82 : (if dle (FP.dmul (if 0 < n71 then (FP.ddiv v70 (FP.i2d n71)) else (4607182418800017408 : UInt64)) (FP.dsub (4607182418800017408 : UInt64) v14)) (FP.dmul (if 0 < (0 : Int32) then (FP.ddiv (0 : UInt64) (FP.i2d (0 : Int32))) else (4607182418800017408 : UInt64)) v14) then (1 : Int32) else (0 : Int32)) = r82
          have hk83 : r80 = r82 := q_r80.symm.trans q_r82
          refine own_icF X81 hx hby at_236 (own_ic_ne_p hk83) (pc' := 239) rfl ?_
          refine own_iconst X81 hx hby (v := (1 : Int32)) (by decide) at_239 (pc' := 240) rfl ?_
          refine own_goto X81 hx hby at_240 (by decide) (pc' := 244) (by decide) ?_
          exact own_retZ X81 hx hby Bd.notSynchronized Bd.returns (Or.inr rfl) at_244 (by decide) (by decide) eH81 ⟨rfl, N81⟩
    · refine own_iload X20 hx hby rfl at_127 (pc' := 129) rfl ?_
      refine own_iload X20 hx hby rfl at_129 (pc' := 131) rfl ?_
      refine own_dload X20 hx hby rfl at_131 (pc' := 133) rfl ?_
      refine own_dload X20 hx hby rfl at_133 (pc' := 135) rfl ?_
      refine own_virtual X20 hx hby hZ (y := (⟨"com/example/bidfold/bidfold/Branching", "learn", "(IZDD)V"⟩ : MethodName)) (y' := (⟨"com/example/bidfold/bidfold/Branching", "learn", "(IZDD)V"⟩ : MethodName)) (C := "com/example/bidfold/bidfold/Branching") (rest := []) hown (hw _ (List.mem_of_getElem? (i := 31) rfl)) (hw _ (List.mem_of_getElem? (i := 32) rfl)) (notFace_of_selects (args := #[]) (mvT hZ (hw _ (List.mem_of_getElem? (i := 34) rfl)))) (hw _ (List.mem_of_getElem? (i := 34) rfl)) (hw _ (List.mem_of_getElem? (i := 33) rfl)) (hw _ (List.mem_of_getElem? (i := 35) rfl)) (hw _ (List.mem_of_getElem? (i := 10) rfl)) (by decide) (rm301 l Z a0 hw [] b19 v5 v6 b8_20 b10_20 (0 : UInt64) (0 : UInt64) (0 : Int32) (0 : Int32) h20 n0 Z0 F_b19_upFalls F_b19_upCounts V_b8_20 V_b10_20 (fun h1 h2 => (own_lu D_v5 D_v6 (own_fr _) (own_bn0 40) (by decide) h1 h2).1) (fun h1 h2 => (own_lu D_v5 D_v6 (own_fr _) (own_bn0 40) (by decide) h1 h2).2.1) (fun h1 h2 => (own_lu D_v5 D_v6 (own_fr _) (own_bn0 40) (by decide) h1 h2).2.2.1) g_b8_20 ne_b19_b8_20 (Ne.symm ne_b8_20_b10_20) g_b10_20 ne_b19_b10_20) eH20 (by rw [hml]; rfl) (a := b19) E_b19 (argsL := [(.int (0 : Int32)), (.int (1 : Int32)), (.double v5), (.double v6)]) rfl (lenOf pd_2 rfl) rfl at_135 (pc' := 138) rfl (by decide) (W := 0) (Nat.le_of_eq rfl) (by decide) (by decide) (by decide) (fun T84 h84 Lc84 v84r X84 eH84 hQ84 => ?_)
      obtain ⟨rfl, Nq84, Kq84, gq84_0, gq84_1⟩ := hQ84
      have N84 := Fr.app N20 Nq84
      replace E_b15 := E_b15.keep Kq84
      replace V_b15 := V_b15.keep Kq84 (ninS ne_b15_b8_20 (ninS ne_b15_b10_20 nin0))
      replace E_b16 := E_b16.keep Kq84
      replace V_b16 := V_b16.keep Kq84 (ninS ne_b16_b8_20 (ninS ne_b16_b10_20 nin0))
      replace E_b17 := E_b17.keep Kq84
      replace V_b17 := V_b17.keep Kq84 (ninS ne_b17_b8_20 (ninS ne_b17_b10_20 nin0))
      replace E_b18 := E_b18.keep Kq84
      replace V_b18 := V_b18.keep Kq84 (ninS ne_b18_b8_20 (ninS ne_b18_b10_20 nin0))
      replace E_b19 := E_b19.keep Kq84
      replace F_b19_downFalls := F_b19_downFalls.keep Kq84 (ninS ne_b19_b8_20 (ninS ne_b19_b10_20 nin0))
      replace F_b19_downCounts := F_b19_downCounts.keep Kq84 (ninS ne_b19_b8_20 (ninS ne_b19_b10_20 nin0))
      replace F_b19_upFalls := F_b19_upFalls.keep Kq84 (ninS ne_b19_b8_20 (ninS ne_b19_b10_20 nin0))
      replace F_b19_upCounts := F_b19_upCounts.keep Kq84 (ninS ne_b19_b8_20 (ninS ne_b19_b10_20 nin0))
      replace E_b4_20 := E_b4_20.keep Kq84
      replace V_b4_20 := V_b4_20.keep Kq84 (ninS ne_b4_20_b8_20 (ninS ne_b4_20_b10_20 nin0))
      replace E_b6_20 := E_b6_20.keep Kq84
      replace V_b6_20 := V_b6_20.keep Kq84 (ninS ne_b6_20_b8_20 (ninS ne_b6_20_b10_20 nin0))
      replace E_b8_20 := E_b8_20.keep Kq84
      replace E_b10_20 := E_b10_20.keep Kq84
      obtain ⟨v85, q_v85⟩ : ∃ z : UInt64, (if dle v5 (4517329193108106637 : UInt64) then (0 : UInt64) else (if dge v5 (4607182409792818153 : UInt64) then (0 : UInt64) else (FP.dadd (0 : UInt64) (FP.ddiv v6 (FP.dsub (4607182418800017408 : UInt64) v5))))) = z := ⟨_, rfl⟩
      have V_b8_20 : Ary tr Z h84 b8_20 .double [(.double v85), (.double (0 : UInt64))] := by rw [← q_v85]; exact gq84_0
      obtain ⟨n86, q_n86⟩ : ∃ z : Int32, (if dle v5 (4517329193108106637 : UInt64) then (0 : Int32) else (if dge v5 (4607182409792818153 : UInt64) then (0 : Int32) else ((0 : Int32) + (1 : Int32)))) = z := ⟨_, rfl⟩
      have V_b10_20 : Ary tr Z h84 b10_20 .int [(.int n86), (.int (0 : Int32))] := by rw [← q_n86]; exact gq84_1
      replace Z0 := Nat.le_trans Z0 Kq84.1
      have B_v85 : Bn v85 41 := q_v85 ▸ own_tr (own_bn0 40) (fun h1 h2 => (own_lu D_v5 D_v6 (own_fr _) (own_bn0 40) (by decide) h1 h2).2.2.2)
      rcases own_bit q_n7 with rfl | rfl
      · refine own_aload X84 hx hby rfl rfl at_138 (pc' := 140) rfl ?_
        rcases own_ite01 q_w8 with rfl | rfl
        · refine own_iload X84 hx hby rfl at_140 (pc' := 142) rfl ?_
          refine own_iload X84 hx hby rfl at_142 (pc' := 144) rfl ?_
          refine own_dload X84 hx hby rfl at_144 (pc' := 146) rfl ?_
          refine own_dload X84 hx hby rfl at_146 (pc' := 148) rfl ?_
          refine own_virtual X84 hx hby hZ (y := (⟨"com/example/bidfold/bidfold/Branching", "learn", "(IZDD)V"⟩ : MethodName)) (y' := (⟨"com/example/bidfold/bidfold/Branching", "learn", "(IZDD)V"⟩ : MethodName)) (C := "com/example/bidfold/bidfold/Branching") (rest := []) hown (hw _ (List.mem_of_getElem? (i := 31) rfl)) (hw _ (List.mem_of_getElem? (i := 32) rfl)) (notFace_of_selects (args := #[]) (mvT hZ (hw _ (List.mem_of_getElem? (i := 34) rfl)))) (hw _ (List.mem_of_getElem? (i := 34) rfl)) (hw _ (List.mem_of_getElem? (i := 33) rfl)) (hw _ (List.mem_of_getElem? (i := 35) rfl)) (hw _ (List.mem_of_getElem? (i := 10) rfl)) (by decide) (rm300 l Z a0 hw [] b19 v11 v12 b4_20 b6_20 (0 : UInt64) (0 : UInt64) (0 : Int32) (0 : Int32) h84 n0 Z0 F_b19_downFalls F_b19_downCounts V_b4_20 V_b6_20 (fun h1 h2 => (own_ld D_v11 D_v12 (own_fr _) (own_bn0 40) (by decide) h1 h2).1) (fun h1 h2 => (own_ld D_v11 D_v12 (own_fr _) (own_bn0 40) (by decide) h1 h2).2.1) g_b4_20 ne_b19_b4_20 (Ne.symm ne_b4_20_b6_20) g_b6_20 ne_b19_b6_20) eH84 (by rw [hml]; rfl) (a := b19) E_b19 (argsL := [(.int (0 : Int32)), (.int (0 : Int32)), (.double v11), (.double v12)]) rfl (lenOf pd_2 rfl) rfl at_148 (pc' := 151) rfl (by decide) (W := 0) (Nat.le_of_eq rfl) (by decide) (by decide) (by decide) (fun T87 h87 Lc87 v87r X87 eH87 hQ87 => ?_)
          obtain ⟨rfl, Nq87, Kq87, gq87_0, gq87_1⟩ := hQ87
          have N87 := Fr.app N84 Nq87
          replace E_b15 := E_b15.keep Kq87
          replace V_b15 := V_b15.keep Kq87 (ninS ne_b15_b4_20 (ninS ne_b15_b6_20 nin0))
          replace E_b16 := E_b16.keep Kq87
          replace V_b16 := V_b16.keep Kq87 (ninS ne_b16_b4_20 (ninS ne_b16_b6_20 nin0))
          replace E_b17 := E_b17.keep Kq87
          replace V_b17 := V_b17.keep Kq87 (ninS ne_b17_b4_20 (ninS ne_b17_b6_20 nin0))
          replace E_b18 := E_b18.keep Kq87
          replace V_b18 := V_b18.keep Kq87 (ninS ne_b18_b4_20 (ninS ne_b18_b6_20 nin0))
          replace E_b19 := E_b19.keep Kq87
          replace F_b19_downFalls := F_b19_downFalls.keep Kq87 (ninS ne_b19_b4_20 (ninS ne_b19_b6_20 nin0))
          replace F_b19_downCounts := F_b19_downCounts.keep Kq87 (ninS ne_b19_b4_20 (ninS ne_b19_b6_20 nin0))
          replace F_b19_upFalls := F_b19_upFalls.keep Kq87 (ninS ne_b19_b4_20 (ninS ne_b19_b6_20 nin0))
          replace F_b19_upCounts := F_b19_upCounts.keep Kq87 (ninS ne_b19_b4_20 (ninS ne_b19_b6_20 nin0))
          replace E_b4_20 := E_b4_20.keep Kq87
          replace E_b6_20 := E_b6_20.keep Kq87
          replace E_b8_20 := E_b8_20.keep Kq87
          replace V_b8_20 := V_b8_20.keep Kq87 (ninS (Ne.symm ne_b4_20_b8_20) (ninS (Ne.symm ne_b6_20_b8_20) nin0))
          replace E_b10_20 := E_b10_20.keep Kq87
          replace V_b10_20 := V_b10_20.keep Kq87 (ninS (Ne.symm ne_b4_20_b10_20) (ninS (Ne.symm ne_b6_20_b10_20) nin0))
          obtain ⟨v88, q_v88⟩ : ∃ z : UInt64, (if dle v11 (4517329193108106637 : UInt64) then (0 : UInt64) else (if dge v11 (4607182409792818153 : UInt64) then (0 : UInt64) else (FP.dadd (0 : UInt64) (FP.ddiv v12 v11)))) = z := ⟨_, rfl⟩
          have V_b4_20 : Ary tr Z h87 b4_20 .double [(.double v88), (.double (0 : UInt64))] := by rw [← q_v88]; exact gq87_0
          obtain ⟨n89, q_n89⟩ : ∃ z : Int32, (if dle v11 (4517329193108106637 : UInt64) then (0 : Int32) else (if dge v11 (4607182409792818153 : UInt64) then (0 : Int32) else ((0 : Int32) + (1 : Int32)))) = z := ⟨_, rfl⟩
          have V_b6_20 : Ary tr Z h87 b6_20 .int [(.int n89), (.int (0 : Int32))] := by rw [← q_n89]; exact gq87_1
          replace Z0 := Nat.le_trans Z0 Kq87.1
          have B_v88 : Bn v88 41 := q_v88 ▸ own_tr (own_bn0 40) (fun h1 h2 => (own_ld D_v11 D_v12 (own_fr _) (own_bn0 40) (by decide) h1 h2).2.2)
          refine own_iload X87 hx hby rfl at_151 (pc' := 153) rfl ?_
          refine own_iload X87 hx hby rfl at_153 (pc' := 155) rfl ?_
          refine own_dload X87 hx hby rfl at_155 (pc' := 157) rfl ?_
          refine own_dload X87 hx hby rfl at_157 (pc' := 159) rfl ?_
          refine own_aload X87 hx hby rfl rfl at_159 (pc' := 161) rfl ?_
          refine own_aload X87 hx hby rfl rfl at_161 (pc' := 163) rfl ?_
          refine own_aload X87 hx hby rfl rfl at_163 (pc' := 165) rfl ?_
          refine own_aload X87 hx hby rfl rfl at_165 (pc' := 167) rfl ?_
          refine own_static X87 hx hby hZ (y := (⟨"com/example/bidfold/bidfold/BranchingLearnPinLaw", "model", "(IZDD[D[I[D[I)V"⟩ : MethodName)) (rest := []) hown (hw _ (List.mem_of_getElem? (i := 37) rfl)) (hw _ (List.mem_of_getElem? (i := 38) rfl)) (hw _ (List.mem_of_getElem? (i := 40) rfl)) (hw _ (List.mem_of_getElem? (i := 39) rfl)) (by decide) (rm401 l Z a0 hw [] v5 v6 b15 b16 b17 b18 (0 : UInt64) (0 : UInt64) (0 : Int32) (0 : Int32) h87 n0 Z0 V_b15 V_b16 (fun h1 h2 => (own_lu D_v5 D_v6 (own_fr _) (own_bn0 40) (by decide) h1 h2).1) (fun h1 h2 => (own_lu D_v5 D_v6 (own_fr _) (own_bn0 40) (by decide) h1 h2).2.1) (fun h1 h2 => (own_lu D_v5 D_v6 (own_fr _) (own_bn0 40) (by decide) h1 h2).2.2.1) g_b15 (Ne.symm ne_b15_b16) g_b16) eH87 (by rw [hml]; rfl) (argsL := [(.int (0 : Int32)), (.int (1 : Int32)), (.double v5), (.double v6), (.ref b15), (.ref b16), (.ref b17), (.ref b18)]) rfl (lenOf pd_3 rfl) rfl at_167 (pc' := 170) rfl (by decide) (W := 0) (Nat.le_of_eq rfl) (by decide) (by decide) (by decide) (fun T90 h90 Lc90 v90r X90 eH90 hQ90 => ?_)
          obtain ⟨rfl, Nq90, Kq90, gq90_0, gq90_1⟩ := hQ90
          have N90 := Fr.app N87 Nq90
          replace E_b15 := E_b15.keep Kq90
          replace E_b16 := E_b16.keep Kq90
          replace E_b17 := E_b17.keep Kq90
          replace V_b17 := V_b17.keep Kq90 (ninS (Ne.symm ne_b15_b17) (ninS (Ne.symm ne_b16_b17) nin0))
          replace E_b18 := E_b18.keep Kq90
          replace V_b18 := V_b18.keep Kq90 (ninS (Ne.symm ne_b15_b18) (ninS (Ne.symm ne_b16_b18) nin0))
          replace E_b19 := E_b19.keep Kq90
          replace F_b19_downFalls := F_b19_downFalls.keep Kq90 (ninS (Ne.symm ne_b15_b19) (ninS (Ne.symm ne_b16_b19) nin0))
          replace F_b19_downCounts := F_b19_downCounts.keep Kq90 (ninS (Ne.symm ne_b15_b19) (ninS (Ne.symm ne_b16_b19) nin0))
          replace F_b19_upFalls := F_b19_upFalls.keep Kq90 (ninS (Ne.symm ne_b15_b19) (ninS (Ne.symm ne_b16_b19) nin0))
          replace F_b19_upCounts := F_b19_upCounts.keep Kq90 (ninS (Ne.symm ne_b15_b19) (ninS (Ne.symm ne_b16_b19) nin0))
          replace E_b4_20 := E_b4_20.keep Kq90
          replace V_b4_20 := V_b4_20.keep Kq90 (ninS (Ne.symm ne_b15_b4_20) (ninS (Ne.symm ne_b16_b4_20) nin0))
          replace E_b6_20 := E_b6_20.keep Kq90
          replace V_b6_20 := V_b6_20.keep Kq90 (ninS (Ne.symm ne_b15_b6_20) (ninS (Ne.symm ne_b16_b6_20) nin0))
          replace E_b8_20 := E_b8_20.keep Kq90
          replace V_b8_20 := V_b8_20.keep Kq90 (ninS (Ne.symm ne_b15_b8_20) (ninS (Ne.symm ne_b16_b8_20) nin0))
          replace E_b10_20 := E_b10_20.keep Kq90
          replace V_b10_20 := V_b10_20.keep Kq90 (ninS (Ne.symm ne_b15_b10_20) (ninS (Ne.symm ne_b16_b10_20) nin0))
          have V_b15 : Ary tr Z h90 b15 .double [(.double v85), (.double (0 : UInt64))] := by rw [← q_v85]; exact gq90_0
          have V_b16 : Ary tr Z h90 b16 .int [(.int n86), (.int (0 : Int32))] := by rw [← q_n86]; exact gq90_1
          replace Z0 := Nat.le_trans Z0 Kq90.1
          refine own_iload X90 hx hby rfl at_170 (pc' := 172) rfl ?_
          refine own_iload X90 hx hby rfl at_172 (pc' := 174) rfl ?_
          refine own_dload X90 hx hby rfl at_174 (pc' := 176) rfl ?_
          refine own_dload X90 hx hby rfl at_176 (pc' := 178) rfl ?_
          refine own_aload X90 hx hby rfl rfl at_178 (pc' := 180) rfl ?_
          refine own_aload X90 hx hby rfl rfl at_180 (pc' := 182) rfl ?_
          refine own_aload X90 hx hby rfl rfl at_182 (pc' := 184) rfl ?_
          refine own_aload X90 hx hby rfl rfl at_184 (pc' := 186) rfl ?_
          refine own_static X90 hx hby hZ (y := (⟨"com/example/bidfold/bidfold/BranchingLearnPinLaw", "model", "(IZDD[D[I[D[I)V"⟩ : MethodName)) (rest := []) hown (hw _ (List.mem_of_getElem? (i := 37) rfl)) (hw _ (List.mem_of_getElem? (i := 38) rfl)) (hw _ (List.mem_of_getElem? (i := 40) rfl)) (hw _ (List.mem_of_getElem? (i := 39) rfl)) (by decide) (rm400 l Z a0 hw [] v11 v12 b15 b16 b17 b18 (0 : UInt64) (0 : UInt64) (0 : Int32) (0 : Int32) h90 n0 Z0 V_b17 V_b18 (fun h1 h2 => (own_ld D_v11 D_v12 (own_fr _) (own_bn0 40) (by decide) h1 h2).1) (fun h1 h2 => (own_ld D_v11 D_v12 (own_fr _) (own_bn0 40) (by decide) h1 h2).2.1) g_b17 (Ne.symm ne_b17_b18) g_b18) eH90 (by rw [hml]; rfl) (argsL := [(.int (0 : Int32)), (.int (0 : Int32)), (.double v11), (.double v12), (.ref b15), (.ref b16), (.ref b17), (.ref b18)]) rfl (lenOf pd_3 rfl) rfl at_186 (pc' := 189) rfl (by decide) (W := 0) (Nat.le_of_eq rfl) (by decide) (by decide) (by decide) (fun T91 h91 Lc91 v91r X91 eH91 hQ91 => ?_)
          obtain ⟨rfl, Nq91, Kq91, gq91_0, gq91_1⟩ := hQ91
          have N91 := Fr.app N90 Nq91
          replace E_b15 := E_b15.keep Kq91
          replace V_b15 := V_b15.keep Kq91 (ninS ne_b15_b17 (ninS ne_b15_b18 nin0))
          replace E_b16 := E_b16.keep Kq91
          replace V_b16 := V_b16.keep Kq91 (ninS ne_b16_b17 (ninS ne_b16_b18 nin0))
          replace E_b17 := E_b17.keep Kq91
          replace E_b18 := E_b18.keep Kq91
          replace E_b19 := E_b19.keep Kq91
          replace F_b19_downFalls := F_b19_downFalls.keep Kq91 (ninS (Ne.symm ne_b17_b19) (ninS (Ne.symm ne_b18_b19) nin0))
          replace F_b19_downCounts := F_b19_downCounts.keep Kq91 (ninS (Ne.symm ne_b17_b19) (ninS (Ne.symm ne_b18_b19) nin0))
          replace F_b19_upFalls := F_b19_upFalls.keep Kq91 (ninS (Ne.symm ne_b17_b19) (ninS (Ne.symm ne_b18_b19) nin0))
          replace F_b19_upCounts := F_b19_upCounts.keep Kq91 (ninS (Ne.symm ne_b17_b19) (ninS (Ne.symm ne_b18_b19) nin0))
          replace E_b4_20 := E_b4_20.keep Kq91
          replace V_b4_20 := V_b4_20.keep Kq91 (ninS (Ne.symm ne_b17_b4_20) (ninS (Ne.symm ne_b18_b4_20) nin0))
          replace E_b6_20 := E_b6_20.keep Kq91
          replace V_b6_20 := V_b6_20.keep Kq91 (ninS (Ne.symm ne_b17_b6_20) (ninS (Ne.symm ne_b18_b6_20) nin0))
          replace E_b8_20 := E_b8_20.keep Kq91
          replace V_b8_20 := V_b8_20.keep Kq91 (ninS (Ne.symm ne_b17_b8_20) (ninS (Ne.symm ne_b18_b8_20) nin0))
          replace E_b10_20 := E_b10_20.keep Kq91
          replace V_b10_20 := V_b10_20.keep Kq91 (ninS (Ne.symm ne_b17_b10_20) (ninS (Ne.symm ne_b18_b10_20) nin0))
          have V_b17 : Ary tr Z h91 b17 .double [(.double v88), (.double (0 : UInt64))] := by rw [← q_v88]; exact gq91_0
          have V_b18 : Ary tr Z h91 b18 .int [(.int n89), (.int (0 : Int32))] := by rw [← q_n89]; exact gq91_1
          replace Z0 := Nat.le_trans Z0 Kq91.1
          refine own_aload X91 hx hby rfl rfl at_189 (pc' := 191) rfl ?_
          refine own_iconst X91 hx hby (v := (0 : Int32)) (by decide) at_191 (pc' := 192) rfl ?_
          refine own_dload X91 hx hby rfl at_192 (pc' := 194) rfl ?_
          refine own_virtual X91 hx hby hZ (y := (⟨"com/example/bidfold/bidfold/Branching", "leansIn", "(ID)Z"⟩ : MethodName)) (y' := (⟨"com/example/bidfold/bidfold/Branching", "leansIn", "(ID)Z"⟩ : MethodName)) (C := "com/example/bidfold/bidfold/Branching") (rest := []) hown (hw _ (List.mem_of_getElem? (i := 42) rfl)) (hw _ (List.mem_of_getElem? (i := 43) rfl)) (notFace_of_selects (args := #[]) (mvT hZ (hw _ (List.mem_of_getElem? (i := 45) rfl)))) (hw _ (List.mem_of_getElem? (i := 45) rfl)) (hw _ (List.mem_of_getElem? (i := 44) rfl)) (hw _ (List.mem_of_getElem? (i := 46) rfl)) (hw _ (List.mem_of_getElem? (i := 10) rfl)) (by decide) (rm50 l Z a0 hw [] b19 v14 b8_20 b10_20 v85 (0 : UInt64) n86 (0 : Int32) b4_20 b6_20 v88 (0 : UInt64) n89 (0 : Int32) h91 n0 Z0 F_b19_upFalls F_b19_upCounts V_b8_20 V_b10_20 F_b19_downFalls F_b19_downCounts V_b4_20 V_b6_20 (fun h => (own_fq B_v85 (by decide) h).nn) P1.nn ((own_fpu B_v85 (by decide)).mul P1 (by decide)).nn (fun h => (own_fq B_v88 (by decide) h).nn) ((own_fpu B_v88 (by decide)).mul P0 (by decide)).nn) eH91 (by rw [hml]; rfl) (a := b19) E_b19 (argsL := [(.int (0 : Int32)), (.double v14)]) rfl (lenOf pd_4 rfl) rfl at_194 (pc' := 197) rfl (by decide) (W := 0) (Nat.le_of_eq rfl) (by decide) (by decide) (by decide) (fun T92 h92 Lc92 v92r X92 eH92 hQ92 => ?_)
          obtain ⟨rfl, Nq92, rfl⟩ := hQ92
          have N92 := Fr.app N91 Nq92
          dsimp only [Option.toList, List.cons_append, List.nil_append]
          generalize q_r93 : (if dle (FP.dmul (if 0 < n86 then (FP.ddiv v85 (FP.i2d n86)) else (4607182418800017408 : UInt64)) (FP.dsub (4607182418800017408 : UInt64) v14)) (FP.dmul (if 0 < n89 then (FP.ddiv v88 (FP.i2d n89)) else (4607182418800017408 : UInt64)) v14) then (1 : Int32) else (0 : Int32)) = r93
          refine own_iconst X92 hx hby (v := (0 : Int32)) (by decide) at_197 (pc' := 198) rfl ?_
          refine own_dload X92 hx hby rfl at_198 (pc' := 200) rfl ?_
          refine own_aload X92 hx hby rfl rfl at_200 (pc' := 202) rfl ?_
          refine own_aload X92 hx hby rfl rfl at_202 (pc' := 204) rfl ?_
          refine own_aload X92 hx hby rfl rfl at_204 (pc' := 206) rfl ?_
          refine own_aload X92 hx hby rfl rfl at_206 (pc' := 208) rfl ?_
          refine own_static X92 hx hby hZ (y := (⟨"com/example/bidfold/bidfold/BranchingLearnPinLaw", "expect", "(ID[D[I[D[I)Z"⟩ : MethodName)) (rest := [(.int r93)]) hown (hw _ (List.mem_of_getElem? (i := 50) rfl)) (hw _ (List.mem_of_getElem? (i := 51) rfl)) (hw _ (List.mem_of_getElem? (i := 52) rfl)) (hw _ (List.mem_of_getElem? (i := 39) rfl)) (by decide) (rm70 l Z a0 hw [] v14 b15 b16 b17 b18 v85 (0 : UInt64) n86 (0 : Int32) v88 (0 : UInt64) n89 (0 : Int32) h91 n0 Z0 V_b15 V_b16 V_b17 V_b18 (fun h => (own_fq B_v85 (by decide) h).nn) (fun h => (own_fq B_v88 (by decide) h).nn) P1.nn ((own_fpu B_v85 (by decide)).mul P1 (by decide)).nn ((own_fpu B_v88 (by decide)).mul P0 (by decide)).nn) eH92 (by rw [hml]; rfl) (argsL := [(.int (0 : Int32)), (.double v14), (.ref b15), (.ref b16), (.ref b17), (.ref b18)]) rfl (lenOf pd_5 rfl) rfl at_208 (pc' := 211) rfl (by decide) (W := 1) (Nat.le_of_eq rfl) (by decide) (by decide) (by decide) (fun T94 h94 Lc94 v94r X94 eH94 hQ94 => ?_)
          obtain ⟨rfl, Nq94, rfl⟩ := hQ94
          have N94 := Fr.app N92 Nq94
          dsimp only [Option.toList, List.cons_append, List.nil_append]
          generalize q_r95 : (if dle (FP.dmul (if 0 < n86 then (FP.ddiv v85 (FP.i2d n86)) else (4607182418800017408 : UInt64)) (FP.dsub (4607182418800017408 : UInt64) v14)) (FP.dmul (if 0 < n89 then (FP.ddiv v88 (FP.i2d n89)) else (4607182418800017408 : UInt64)) v14) then (1 : Int32) else (0 : Int32)) = r95
          have hk96 : r93 = r95 := q_r93.symm.trans q_r95
          refine own_icF X94 hx hby at_211 (own_ic_ne_p hk96) (pc' := 214) rfl ?_
          refine own_aload X94 hx hby rfl rfl at_214 (pc' := 216) rfl ?_
          refine own_iconst X94 hx hby (v := (1 : Int32)) (by decide) at_216 (pc' := 217) rfl ?_
          refine own_dload X94 hx hby rfl at_217 (pc' := 219) rfl ?_
          refine own_virtual X94 hx hby hZ (y := (⟨"com/example/bidfold/bidfold/Branching", "leansIn", "(ID)Z"⟩ : MethodName)) (y' := (⟨"com/example/bidfold/bidfold/Branching", "leansIn", "(ID)Z"⟩ : MethodName)) (C := "com/example/bidfold/bidfold/Branching") (rest := []) hown (hw _ (List.mem_of_getElem? (i := 42) rfl)) (hw _ (List.mem_of_getElem? (i := 43) rfl)) (notFace_of_selects (args := #[]) (mvT hZ (hw _ (List.mem_of_getElem? (i := 45) rfl)))) (hw _ (List.mem_of_getElem? (i := 45) rfl)) (hw _ (List.mem_of_getElem? (i := 44) rfl)) (hw _ (List.mem_of_getElem? (i := 46) rfl)) (hw _ (List.mem_of_getElem? (i := 10) rfl)) (by decide) (rm51 l Z a0 hw [] b19 v14 b8_20 b10_20 v85 (0 : UInt64) n86 (0 : Int32) b4_20 b6_20 v88 (0 : UInt64) n89 (0 : Int32) h91 n0 Z0 F_b19_upFalls F_b19_upCounts V_b8_20 V_b10_20 F_b19_downFalls F_b19_downCounts V_b4_20 V_b6_20 (fun h => (own_fq (own_bn0 40) (by decide) h).nn) P1.nn ((own_fpu (own_bn0 40) (by decide)).mul P1 (by decide)).nn (fun h => (own_fq (own_bn0 40) (by decide) h).nn) ((own_fpu (own_bn0 40) (by decide)).mul P0 (by decide)).nn) eH94 (by rw [hml]; rfl) (a := b19) E_b19 (argsL := [(.int (1 : Int32)), (.double v14)]) rfl (lenOf pd_4 rfl) rfl at_219 (pc' := 222) rfl (by decide) (W := 0) (Nat.le_of_eq rfl) (by decide) (by decide) (by decide) (fun T97 h97 Lc97 v97r X97 eH97 hQ97 => ?_)
          obtain ⟨rfl, Nq97, rfl⟩ := hQ97
          have N97 := Fr.app N94 Nq97
          dsimp only [Option.toList, List.cons_append, List.nil_append]
          generalize q_r98 : (if dle (FP.dmul (if 0 < (0 : Int32) then (FP.ddiv (0 : UInt64) (FP.i2d (0 : Int32))) else (4607182418800017408 : UInt64)) (FP.dsub (4607182418800017408 : UInt64) v14)) (FP.dmul (if 0 < (0 : Int32) then (FP.ddiv (0 : UInt64) (FP.i2d (0 : Int32))) else (4607182418800017408 : UInt64)) v14) then (1 : Int32) else (0 : Int32)) = r98
          refine own_iconst X97 hx hby (v := (1 : Int32)) (by decide) at_222 (pc' := 223) rfl ?_
          refine own_dload X97 hx hby rfl at_223 (pc' := 225) rfl ?_
          refine own_aload X97 hx hby rfl rfl at_225 (pc' := 227) rfl ?_
          refine own_aload X97 hx hby rfl rfl at_227 (pc' := 229) rfl ?_
          refine own_aload X97 hx hby rfl rfl at_229 (pc' := 231) rfl ?_
          refine own_aload X97 hx hby rfl rfl at_231 (pc' := 233) rfl ?_
          refine own_static X97 hx hby hZ (y := (⟨"com/example/bidfold/bidfold/BranchingLearnPinLaw", "expect", "(ID[D[I[D[I)Z"⟩ : MethodName)) (rest := [(.int r98)]) hown (hw _ (List.mem_of_getElem? (i := 50) rfl)) (hw _ (List.mem_of_getElem? (i := 51) rfl)) (hw _ (List.mem_of_getElem? (i := 52) rfl)) (hw _ (List.mem_of_getElem? (i := 39) rfl)) (by decide) (rm71 l Z a0 hw [] v14 b15 b16 b17 b18 v85 (0 : UInt64) n86 (0 : Int32) v88 (0 : UInt64) n89 (0 : Int32) h91 n0 Z0 V_b15 V_b16 V_b17 V_b18 (fun h => (own_fq (own_bn0 40) (by decide) h).nn) (fun h => (own_fq (own_bn0 40) (by decide) h).nn) P1.nn ((own_fpu (own_bn0 40) (by decide)).mul P1 (by decide)).nn ((own_fpu (own_bn0 40) (by decide)).mul P0 (by decide)).nn) eH97 (by rw [hml]; rfl) (argsL := [(.int (1 : Int32)), (.double v14), (.ref b15), (.ref b16), (.ref b17), (.ref b18)]) rfl (lenOf pd_5 rfl) rfl at_233 (pc' := 236) rfl (by decide) (W := 1) (Nat.le_of_eq rfl) (by decide) (by decide) (by decide) (fun T99 h99 Lc99 v99r X99 eH99 hQ99 => ?_)
          obtain ⟨rfl, Nq99, rfl⟩ := hQ99
          have N99 := Fr.app N97 Nq99
          dsimp only [Option.toList, List.cons_append, List.nil_append]
          generalize q_r100 : (if dle (FP.dmul (if 0 < (0 : Int32) then (FP.ddiv (0 : UInt64) (FP.i2d (0 : Int32))) else (4607182418800017408 : UInt64)) (FP.dsub (4607182418800017408 : UInt64) v14)) (FP.dmul (if 0 < (0 : Int32) then (FP.ddiv (0 : UInt64) (FP.i2d (0 : Int32))) else (4607182418800017408 : UInt64)) v14) then (1 : Int32) else (0 : Int32)) = r100
          have hk101 : r98 = r100 := q_r98.symm.trans q_r100
          refine own_icF X99 hx hby at_236 (own_ic_ne_p hk101) (pc' := 239) rfl ?_
          refine own_iconst X99 hx hby (v := (1 : Int32)) (by decide) at_239 (pc' := 240) rfl ?_
          refine own_goto X99 hx hby at_240 (by decide) (pc' := 244) (by decide) ?_
          exact own_retZ X99 hx hby Bd.notSynchronized Bd.returns (Or.inr rfl) at_244 (by decide) (by decide) eH99 ⟨rfl, N99⟩
        · refine own_iload X84 hx hby rfl at_140 (pc' := 142) rfl ?_
          refine own_iload X84 hx hby rfl at_142 (pc' := 144) rfl ?_
          refine own_dload X84 hx hby rfl at_144 (pc' := 146) rfl ?_
          refine own_dload X84 hx hby rfl at_146 (pc' := 148) rfl ?_
          refine own_virtual X84 hx hby hZ (y := (⟨"com/example/bidfold/bidfold/Branching", "learn", "(IZDD)V"⟩ : MethodName)) (y' := (⟨"com/example/bidfold/bidfold/Branching", "learn", "(IZDD)V"⟩ : MethodName)) (C := "com/example/bidfold/bidfold/Branching") (rest := []) hown (hw _ (List.mem_of_getElem? (i := 31) rfl)) (hw _ (List.mem_of_getElem? (i := 32) rfl)) (notFace_of_selects (args := #[]) (mvT hZ (hw _ (List.mem_of_getElem? (i := 34) rfl)))) (hw _ (List.mem_of_getElem? (i := 34) rfl)) (hw _ (List.mem_of_getElem? (i := 33) rfl)) (hw _ (List.mem_of_getElem? (i := 35) rfl)) (hw _ (List.mem_of_getElem? (i := 10) rfl)) (by decide) (rm301 l Z a0 hw [] b19 v11 v12 b8_20 b10_20 v85 (0 : UInt64) n86 (0 : Int32) h84 n0 Z0 F_b19_upFalls F_b19_upCounts V_b8_20 V_b10_20 (fun h1 h2 => (own_lu D_v11 D_v12 (own_fr _) B_v85 (by decide) h1 h2).1) (fun h1 h2 => (own_lu D_v11 D_v12 (own_fr _) B_v85 (by decide) h1 h2).2.1) (fun h1 h2 => (own_lu D_v11 D_v12 (own_fr _) B_v85 (by decide) h1 h2).2.2.1) g_b8_20 ne_b19_b8_20 (Ne.symm ne_b8_20_b10_20) g_b10_20 ne_b19_b10_20) eH84 (by rw [hml]; rfl) (a := b19) E_b19 (argsL := [(.int (0 : Int32)), (.int (1 : Int32)), (.double v11), (.double v12)]) rfl (lenOf pd_2 rfl) rfl at_148 (pc' := 151) rfl (by decide) (W := 0) (Nat.le_of_eq rfl) (by decide) (by decide) (by decide) (fun T102 h102 Lc102 v102r X102 eH102 hQ102 => ?_)
          obtain ⟨rfl, Nq102, Kq102, gq102_0, gq102_1⟩ := hQ102
          have N102 := Fr.app N84 Nq102
          replace E_b15 := E_b15.keep Kq102
          replace V_b15 := V_b15.keep Kq102 (ninS ne_b15_b8_20 (ninS ne_b15_b10_20 nin0))
          replace E_b16 := E_b16.keep Kq102
          replace V_b16 := V_b16.keep Kq102 (ninS ne_b16_b8_20 (ninS ne_b16_b10_20 nin0))
          replace E_b17 := E_b17.keep Kq102
          replace V_b17 := V_b17.keep Kq102 (ninS ne_b17_b8_20 (ninS ne_b17_b10_20 nin0))
          replace E_b18 := E_b18.keep Kq102
          replace V_b18 := V_b18.keep Kq102 (ninS ne_b18_b8_20 (ninS ne_b18_b10_20 nin0))
          replace E_b19 := E_b19.keep Kq102
          replace F_b19_downFalls := F_b19_downFalls.keep Kq102 (ninS ne_b19_b8_20 (ninS ne_b19_b10_20 nin0))
          replace F_b19_downCounts := F_b19_downCounts.keep Kq102 (ninS ne_b19_b8_20 (ninS ne_b19_b10_20 nin0))
          replace F_b19_upFalls := F_b19_upFalls.keep Kq102 (ninS ne_b19_b8_20 (ninS ne_b19_b10_20 nin0))
          replace F_b19_upCounts := F_b19_upCounts.keep Kq102 (ninS ne_b19_b8_20 (ninS ne_b19_b10_20 nin0))
          replace E_b4_20 := E_b4_20.keep Kq102
          replace V_b4_20 := V_b4_20.keep Kq102 (ninS ne_b4_20_b8_20 (ninS ne_b4_20_b10_20 nin0))
          replace E_b6_20 := E_b6_20.keep Kq102
          replace V_b6_20 := V_b6_20.keep Kq102 (ninS ne_b6_20_b8_20 (ninS ne_b6_20_b10_20 nin0))
          replace E_b8_20 := E_b8_20.keep Kq102
          replace E_b10_20 := E_b10_20.keep Kq102
          obtain ⟨v103, q_v103⟩ : ∃ z : UInt64, (if dle v11 (4517329193108106637 : UInt64) then v85 else (if dge v11 (4607182409792818153 : UInt64) then v85 else (FP.dadd v85 (FP.ddiv v12 (FP.dsub (4607182418800017408 : UInt64) v11))))) = z := ⟨_, rfl⟩
          have V_b8_20 : Ary tr Z h102 b8_20 .double [(.double v103), (.double (0 : UInt64))] := by rw [← q_v103]; exact gq102_0
          obtain ⟨n104, q_n104⟩ : ∃ z : Int32, (if dle v11 (4517329193108106637 : UInt64) then n86 else (if dge v11 (4607182409792818153 : UInt64) then n86 else (n86 + (1 : Int32)))) = z := ⟨_, rfl⟩
          have V_b10_20 : Ary tr Z h102 b10_20 .int [(.int n104), (.int (0 : Int32))] := by rw [← q_n104]; exact gq102_1
          replace Z0 := Nat.le_trans Z0 Kq102.1
          have B_v103 : Bn v103 42 := q_v103 ▸ own_tr B_v85 (fun h1 h2 => (own_lu D_v11 D_v12 (own_fr _) B_v85 (by decide) h1 h2).2.2.2)
          refine own_iload X102 hx hby rfl at_151 (pc' := 153) rfl ?_
          refine own_iload X102 hx hby rfl at_153 (pc' := 155) rfl ?_
          refine own_dload X102 hx hby rfl at_155 (pc' := 157) rfl ?_
          refine own_dload X102 hx hby rfl at_157 (pc' := 159) rfl ?_
          refine own_aload X102 hx hby rfl rfl at_159 (pc' := 161) rfl ?_
          refine own_aload X102 hx hby rfl rfl at_161 (pc' := 163) rfl ?_
          refine own_aload X102 hx hby rfl rfl at_163 (pc' := 165) rfl ?_
          refine own_aload X102 hx hby rfl rfl at_165 (pc' := 167) rfl ?_
          refine own_static X102 hx hby hZ (y := (⟨"com/example/bidfold/bidfold/BranchingLearnPinLaw", "model", "(IZDD[D[I[D[I)V"⟩ : MethodName)) (rest := []) hown (hw _ (List.mem_of_getElem? (i := 37) rfl)) (hw _ (List.mem_of_getElem? (i := 38) rfl)) (hw _ (List.mem_of_getElem? (i := 40) rfl)) (hw _ (List.mem_of_getElem? (i := 39) rfl)) (by decide) (rm401 l Z a0 hw [] v5 v6 b15 b16 b17 b18 (0 : UInt64) (0 : UInt64) (0 : Int32) (0 : Int32) h102 n0 Z0 V_b15 V_b16 (fun h1 h2 => (own_lu D_v5 D_v6 (own_fr _) (own_bn0 40) (by decide) h1 h2).1) (fun h1 h2 => (own_lu D_v5 D_v6 (own_fr _) (own_bn0 40) (by decide) h1 h2).2.1) (fun h1 h2 => (own_lu D_v5 D_v6 (own_fr _) (own_bn0 40) (by decide) h1 h2).2.2.1) g_b15 (Ne.symm ne_b15_b16) g_b16) eH102 (by rw [hml]; rfl) (argsL := [(.int (0 : Int32)), (.int (1 : Int32)), (.double v5), (.double v6), (.ref b15), (.ref b16), (.ref b17), (.ref b18)]) rfl (lenOf pd_3 rfl) rfl at_167 (pc' := 170) rfl (by decide) (W := 0) (Nat.le_of_eq rfl) (by decide) (by decide) (by decide) (fun T105 h105 Lc105 v105r X105 eH105 hQ105 => ?_)
          obtain ⟨rfl, Nq105, Kq105, gq105_0, gq105_1⟩ := hQ105
          have N105 := Fr.app N102 Nq105
          replace E_b15 := E_b15.keep Kq105
          replace E_b16 := E_b16.keep Kq105
          replace E_b17 := E_b17.keep Kq105
          replace V_b17 := V_b17.keep Kq105 (ninS (Ne.symm ne_b15_b17) (ninS (Ne.symm ne_b16_b17) nin0))
          replace E_b18 := E_b18.keep Kq105
          replace V_b18 := V_b18.keep Kq105 (ninS (Ne.symm ne_b15_b18) (ninS (Ne.symm ne_b16_b18) nin0))
          replace E_b19 := E_b19.keep Kq105
          replace F_b19_downFalls := F_b19_downFalls.keep Kq105 (ninS (Ne.symm ne_b15_b19) (ninS (Ne.symm ne_b16_b19) nin0))
          replace F_b19_downCounts := F_b19_downCounts.keep Kq105 (ninS (Ne.symm ne_b15_b19) (ninS (Ne.symm ne_b16_b19) nin0))
          replace F_b19_upFalls := F_b19_upFalls.keep Kq105 (ninS (Ne.symm ne_b15_b19) (ninS (Ne.symm ne_b16_b19) nin0))
          replace F_b19_upCounts := F_b19_upCounts.keep Kq105 (ninS (Ne.symm ne_b15_b19) (ninS (Ne.symm ne_b16_b19) nin0))
          replace E_b4_20 := E_b4_20.keep Kq105
          replace V_b4_20 := V_b4_20.keep Kq105 (ninS (Ne.symm ne_b15_b4_20) (ninS (Ne.symm ne_b16_b4_20) nin0))
          replace E_b6_20 := E_b6_20.keep Kq105
          replace V_b6_20 := V_b6_20.keep Kq105 (ninS (Ne.symm ne_b15_b6_20) (ninS (Ne.symm ne_b16_b6_20) nin0))
          replace E_b8_20 := E_b8_20.keep Kq105
          replace V_b8_20 := V_b8_20.keep Kq105 (ninS (Ne.symm ne_b15_b8_20) (ninS (Ne.symm ne_b16_b8_20) nin0))
          replace E_b10_20 := E_b10_20.keep Kq105
          replace V_b10_20 := V_b10_20.keep Kq105 (ninS (Ne.symm ne_b15_b10_20) (ninS (Ne.symm ne_b16_b10_20) nin0))
          have V_b15 : Ary tr Z h105 b15 .double [(.double v85), (.double (0 : UInt64))] := by rw [← q_v85]; exact gq105_0
          have V_b16 : Ary tr Z h105 b16 .int [(.int n86), (.int (0 : Int32))] := by rw [← q_n86]; exact gq105_1
          replace Z0 := Nat.le_trans Z0 Kq105.1
          refine own_iload X105 hx hby rfl at_170 (pc' := 172) rfl ?_
          refine own_iload X105 hx hby rfl at_172 (pc' := 174) rfl ?_
          refine own_dload X105 hx hby rfl at_174 (pc' := 176) rfl ?_
          refine own_dload X105 hx hby rfl at_176 (pc' := 178) rfl ?_
          refine own_aload X105 hx hby rfl rfl at_178 (pc' := 180) rfl ?_
          refine own_aload X105 hx hby rfl rfl at_180 (pc' := 182) rfl ?_
          refine own_aload X105 hx hby rfl rfl at_182 (pc' := 184) rfl ?_
          refine own_aload X105 hx hby rfl rfl at_184 (pc' := 186) rfl ?_
          refine own_static X105 hx hby hZ (y := (⟨"com/example/bidfold/bidfold/BranchingLearnPinLaw", "model", "(IZDD[D[I[D[I)V"⟩ : MethodName)) (rest := []) hown (hw _ (List.mem_of_getElem? (i := 37) rfl)) (hw _ (List.mem_of_getElem? (i := 38) rfl)) (hw _ (List.mem_of_getElem? (i := 40) rfl)) (hw _ (List.mem_of_getElem? (i := 39) rfl)) (by decide) (rm401 l Z a0 hw [] v11 v12 b15 b16 b17 b18 v85 (0 : UInt64) n86 (0 : Int32) h105 n0 Z0 V_b15 V_b16 (fun h1 h2 => (own_lu D_v11 D_v12 (own_fr _) B_v85 (by decide) h1 h2).1) (fun h1 h2 => (own_lu D_v11 D_v12 (own_fr _) B_v85 (by decide) h1 h2).2.1) (fun h1 h2 => (own_lu D_v11 D_v12 (own_fr _) B_v85 (by decide) h1 h2).2.2.1) g_b15 (Ne.symm ne_b15_b16) g_b16) eH105 (by rw [hml]; rfl) (argsL := [(.int (0 : Int32)), (.int (1 : Int32)), (.double v11), (.double v12), (.ref b15), (.ref b16), (.ref b17), (.ref b18)]) rfl (lenOf pd_3 rfl) rfl at_186 (pc' := 189) rfl (by decide) (W := 0) (Nat.le_of_eq rfl) (by decide) (by decide) (by decide) (fun T106 h106 Lc106 v106r X106 eH106 hQ106 => ?_)
          obtain ⟨rfl, Nq106, Kq106, gq106_0, gq106_1⟩ := hQ106
          have N106 := Fr.app N105 Nq106
          replace E_b15 := E_b15.keep Kq106
          replace E_b16 := E_b16.keep Kq106
          replace E_b17 := E_b17.keep Kq106
          replace V_b17 := V_b17.keep Kq106 (ninS (Ne.symm ne_b15_b17) (ninS (Ne.symm ne_b16_b17) nin0))
          replace E_b18 := E_b18.keep Kq106
          replace V_b18 := V_b18.keep Kq106 (ninS (Ne.symm ne_b15_b18) (ninS (Ne.symm ne_b16_b18) nin0))
          replace E_b19 := E_b19.keep Kq106
          replace F_b19_downFalls := F_b19_downFalls.keep Kq106 (ninS (Ne.symm ne_b15_b19) (ninS (Ne.symm ne_b16_b19) nin0))
          replace F_b19_downCounts := F_b19_downCounts.keep Kq106 (ninS (Ne.symm ne_b15_b19) (ninS (Ne.symm ne_b16_b19) nin0))
          replace F_b19_upFalls := F_b19_upFalls.keep Kq106 (ninS (Ne.symm ne_b15_b19) (ninS (Ne.symm ne_b16_b19) nin0))
          replace F_b19_upCounts := F_b19_upCounts.keep Kq106 (ninS (Ne.symm ne_b15_b19) (ninS (Ne.symm ne_b16_b19) nin0))
          replace E_b4_20 := E_b4_20.keep Kq106
          replace V_b4_20 := V_b4_20.keep Kq106 (ninS (Ne.symm ne_b15_b4_20) (ninS (Ne.symm ne_b16_b4_20) nin0))
          replace E_b6_20 := E_b6_20.keep Kq106
          replace V_b6_20 := V_b6_20.keep Kq106 (ninS (Ne.symm ne_b15_b6_20) (ninS (Ne.symm ne_b16_b6_20) nin0))
          replace E_b8_20 := E_b8_20.keep Kq106
          replace V_b8_20 := V_b8_20.keep Kq106 (ninS (Ne.symm ne_b15_b8_20) (ninS (Ne.symm ne_b16_b8_20) nin0))
          replace E_b10_20 := E_b10_20.keep Kq106
          replace V_b10_20 := V_b10_20.keep Kq106 (ninS (Ne.symm ne_b15_b10_20) (ninS (Ne.symm ne_b16_b10_20) nin0))
          have V_b15 : Ary tr Z h106 b15 .double [(.double v103), (.double (0 : UInt64))] := by rw [← q_v103]; exact gq106_0
          have V_b16 : Ary tr Z h106 b16 .int [(.int n104), (.int (0 : Int32))] := by rw [← q_n104]; exact gq106_1
          replace Z0 := Nat.le_trans Z0 Kq106.1
          refine own_aload X106 hx hby rfl rfl at_189 (pc' := 191) rfl ?_
          refine own_iconst X106 hx hby (v := (0 : Int32)) (by decide) at_191 (pc' := 192) rfl ?_
          refine own_dload X106 hx hby rfl at_192 (pc' := 194) rfl ?_
          refine own_virtual X106 hx hby hZ (y := (⟨"com/example/bidfold/bidfold/Branching", "leansIn", "(ID)Z"⟩ : MethodName)) (y' := (⟨"com/example/bidfold/bidfold/Branching", "leansIn", "(ID)Z"⟩ : MethodName)) (C := "com/example/bidfold/bidfold/Branching") (rest := []) hown (hw _ (List.mem_of_getElem? (i := 42) rfl)) (hw _ (List.mem_of_getElem? (i := 43) rfl)) (notFace_of_selects (args := #[]) (mvT hZ (hw _ (List.mem_of_getElem? (i := 45) rfl)))) (hw _ (List.mem_of_getElem? (i := 45) rfl)) (hw _ (List.mem_of_getElem? (i := 44) rfl)) (hw _ (List.mem_of_getElem? (i := 46) rfl)) (hw _ (List.mem_of_getElem? (i := 10) rfl)) (by decide) (rm50 l Z a0 hw [] b19 v14 b8_20 b10_20 v103 (0 : UInt64) n104 (0 : Int32) b4_20 b6_20 (0 : UInt64) (0 : UInt64) (0 : Int32) (0 : Int32) h106 n0 Z0 F_b19_upFalls F_b19_upCounts V_b8_20 V_b10_20 F_b19_downFalls F_b19_downCounts V_b4_20 V_b6_20 (fun h => (own_fq B_v103 (by decide) h).nn) P1.nn ((own_fpu B_v103 (by decide)).mul P1 (by decide)).nn (fun h => (own_fq (own_bn0 40) (by decide) h).nn) ((own_fpu (own_bn0 40) (by decide)).mul P0 (by decide)).nn) eH106 (by rw [hml]; rfl) (a := b19) E_b19 (argsL := [(.int (0 : Int32)), (.double v14)]) rfl (lenOf pd_4 rfl) rfl at_194 (pc' := 197) rfl (by decide) (W := 0) (Nat.le_of_eq rfl) (by decide) (by decide) (by decide) (fun T107 h107 Lc107 v107r X107 eH107 hQ107 => ?_)
          obtain ⟨rfl, Nq107, rfl⟩ := hQ107
          have N107 := Fr.app N106 Nq107
          dsimp only [Option.toList, List.cons_append, List.nil_append]
          generalize q_r108 : (if dle (FP.dmul (if 0 < n104 then (FP.ddiv v103 (FP.i2d n104)) else (4607182418800017408 : UInt64)) (FP.dsub (4607182418800017408 : UInt64) v14)) (FP.dmul (if 0 < (0 : Int32) then (FP.ddiv (0 : UInt64) (FP.i2d (0 : Int32))) else (4607182418800017408 : UInt64)) v14) then (1 : Int32) else (0 : Int32)) = r108
          refine own_iconst X107 hx hby (v := (0 : Int32)) (by decide) at_197 (pc' := 198) rfl ?_
          refine own_dload X107 hx hby rfl at_198 (pc' := 200) rfl ?_
          refine own_aload X107 hx hby rfl rfl at_200 (pc' := 202) rfl ?_
          refine own_aload X107 hx hby rfl rfl at_202 (pc' := 204) rfl ?_
          refine own_aload X107 hx hby rfl rfl at_204 (pc' := 206) rfl ?_
          refine own_aload X107 hx hby rfl rfl at_206 (pc' := 208) rfl ?_
          refine own_static X107 hx hby hZ (y := (⟨"com/example/bidfold/bidfold/BranchingLearnPinLaw", "expect", "(ID[D[I[D[I)Z"⟩ : MethodName)) (rest := [(.int r108)]) hown (hw _ (List.mem_of_getElem? (i := 50) rfl)) (hw _ (List.mem_of_getElem? (i := 51) rfl)) (hw _ (List.mem_of_getElem? (i := 52) rfl)) (hw _ (List.mem_of_getElem? (i := 39) rfl)) (by decide) (rm70 l Z a0 hw [] v14 b15 b16 b17 b18 v103 (0 : UInt64) n104 (0 : Int32) (0 : UInt64) (0 : UInt64) (0 : Int32) (0 : Int32) h106 n0 Z0 V_b15 V_b16 V_b17 V_b18 (fun h => (own_fq B_v103 (by decide) h).nn) (fun h => (own_fq (own_bn0 40) (by decide) h).nn) P1.nn ((own_fpu B_v103 (by decide)).mul P1 (by decide)).nn ((own_fpu (own_bn0 40) (by decide)).mul P0 (by decide)).nn) eH107 (by rw [hml]; rfl) (argsL := [(.int (0 : Int32)), (.double v14), (.ref b15), (.ref b16), (.ref b17), (.ref b18)]) rfl (lenOf pd_5 rfl) rfl at_208 (pc' := 211) rfl (by decide) (W := 1) (Nat.le_of_eq rfl) (by decide) (by decide) (by decide) (fun T109 h109 Lc109 v109r X109 eH109 hQ109 => ?_)
          obtain ⟨rfl, Nq109, rfl⟩ := hQ109
          have N109 := Fr.app N107 Nq109
          dsimp only [Option.toList, List.cons_append, List.nil_append]
          generalize q_r110 : (if dle (FP.dmul (if 0 < n104 then (FP.ddiv v103 (FP.i2d n104)) else (4607182418800017408 : UInt64)) (FP.dsub (4607182418800017408 : UInt64) v14)) (FP.dmul (if 0 < (0 : Int32) then (FP.ddiv (0 : UInt64) (FP.i2d (0 : Int32))) else (4607182418800017408 : UInt64)) v14) then (1 : Int32) else (0 : Int32)) = r110
          have hk111 : r108 = r110 := q_r108.symm.trans q_r110
          refine own_icF X109 hx hby at_211 (own_ic_ne_p hk111) (pc' := 214) rfl ?_
          refine own_aload X109 hx hby rfl rfl at_214 (pc' := 216) rfl ?_
          refine own_iconst X109 hx hby (v := (1 : Int32)) (by decide) at_216 (pc' := 217) rfl ?_
          refine own_dload X109 hx hby rfl at_217 (pc' := 219) rfl ?_
          refine own_virtual X109 hx hby hZ (y := (⟨"com/example/bidfold/bidfold/Branching", "leansIn", "(ID)Z"⟩ : MethodName)) (y' := (⟨"com/example/bidfold/bidfold/Branching", "leansIn", "(ID)Z"⟩ : MethodName)) (C := "com/example/bidfold/bidfold/Branching") (rest := []) hown (hw _ (List.mem_of_getElem? (i := 42) rfl)) (hw _ (List.mem_of_getElem? (i := 43) rfl)) (notFace_of_selects (args := #[]) (mvT hZ (hw _ (List.mem_of_getElem? (i := 45) rfl)))) (hw _ (List.mem_of_getElem? (i := 45) rfl)) (hw _ (List.mem_of_getElem? (i := 44) rfl)) (hw _ (List.mem_of_getElem? (i := 46) rfl)) (hw _ (List.mem_of_getElem? (i := 10) rfl)) (by decide) (rm51 l Z a0 hw [] b19 v14 b8_20 b10_20 v103 (0 : UInt64) n104 (0 : Int32) b4_20 b6_20 (0 : UInt64) (0 : UInt64) (0 : Int32) (0 : Int32) h106 n0 Z0 F_b19_upFalls F_b19_upCounts V_b8_20 V_b10_20 F_b19_downFalls F_b19_downCounts V_b4_20 V_b6_20 (fun h => (own_fq (own_bn0 40) (by decide) h).nn) P1.nn ((own_fpu (own_bn0 40) (by decide)).mul P1 (by decide)).nn (fun h => (own_fq (own_bn0 40) (by decide) h).nn) ((own_fpu (own_bn0 40) (by decide)).mul P0 (by decide)).nn) eH109 (by rw [hml]; rfl) (a := b19) E_b19 (argsL := [(.int (1 : Int32)), (.double v14)]) rfl (lenOf pd_4 rfl) rfl at_219 (pc' := 222) rfl (by decide) (W := 0) (Nat.le_of_eq rfl) (by decide) (by decide) (by decide) (fun T112 h112 Lc112 v112r X112 eH112 hQ112 => ?_)
          obtain ⟨rfl, Nq112, rfl⟩ := hQ112
          have N112 := Fr.app N109 Nq112
          dsimp only [Option.toList, List.cons_append, List.nil_append]
          generalize q_r113 : (if dle (FP.dmul (if 0 < (0 : Int32) then (FP.ddiv (0 : UInt64) (FP.i2d (0 : Int32))) else (4607182418800017408 : UInt64)) (FP.dsub (4607182418800017408 : UInt64) v14)) (FP.dmul (if 0 < (0 : Int32) then (FP.ddiv (0 : UInt64) (FP.i2d (0 : Int32))) else (4607182418800017408 : UInt64)) v14) then (1 : Int32) else (0 : Int32)) = r113
          refine own_iconst X112 hx hby (v := (1 : Int32)) (by decide) at_222 (pc' := 223) rfl ?_
          refine own_dload X112 hx hby rfl at_223 (pc' := 225) rfl ?_
          refine own_aload X112 hx hby rfl rfl at_225 (pc' := 227) rfl ?_
          refine own_aload X112 hx hby rfl rfl at_227 (pc' := 229) rfl ?_
          refine own_aload X112 hx hby rfl rfl at_229 (pc' := 231) rfl ?_
          refine own_aload X112 hx hby rfl rfl at_231 (pc' := 233) rfl ?_
          refine own_static X112 hx hby hZ (y := (⟨"com/example/bidfold/bidfold/BranchingLearnPinLaw", "expect", "(ID[D[I[D[I)Z"⟩ : MethodName)) (rest := [(.int r113)]) hown (hw _ (List.mem_of_getElem? (i := 50) rfl)) (hw _ (List.mem_of_getElem? (i := 51) rfl)) (hw _ (List.mem_of_getElem? (i := 52) rfl)) (hw _ (List.mem_of_getElem? (i := 39) rfl)) (by decide) (rm71 l Z a0 hw [] v14 b15 b16 b17 b18 v103 (0 : UInt64) n104 (0 : Int32) (0 : UInt64) (0 : UInt64) (0 : Int32) (0 : Int32) h106 n0 Z0 V_b15 V_b16 V_b17 V_b18 (fun h => (own_fq (own_bn0 40) (by decide) h).nn) (fun h => (own_fq (own_bn0 40) (by decide) h).nn) P1.nn ((own_fpu (own_bn0 40) (by decide)).mul P1 (by decide)).nn ((own_fpu (own_bn0 40) (by decide)).mul P0 (by decide)).nn) eH112 (by rw [hml]; rfl) (argsL := [(.int (1 : Int32)), (.double v14), (.ref b15), (.ref b16), (.ref b17), (.ref b18)]) rfl (lenOf pd_5 rfl) rfl at_233 (pc' := 236) rfl (by decide) (W := 1) (Nat.le_of_eq rfl) (by decide) (by decide) (by decide) (fun T114 h114 Lc114 v114r X114 eH114 hQ114 => ?_)
          obtain ⟨rfl, Nq114, rfl⟩ := hQ114
          have N114 := Fr.app N112 Nq114
          dsimp only [Option.toList, List.cons_append, List.nil_append]
          generalize q_r115 : (if dle (FP.dmul (if 0 < (0 : Int32) then (FP.ddiv (0 : UInt64) (FP.i2d (0 : Int32))) else (4607182418800017408 : UInt64)) (FP.dsub (4607182418800017408 : UInt64) v14)) (FP.dmul (if 0 < (0 : Int32) then (FP.ddiv (0 : UInt64) (FP.i2d (0 : Int32))) else (4607182418800017408 : UInt64)) v14) then (1 : Int32) else (0 : Int32)) = r115
          have hk116 : r113 = r115 := q_r113.symm.trans q_r115
          refine own_icF X114 hx hby at_236 (own_ic_ne_p hk116) (pc' := 239) rfl ?_
          refine own_iconst X114 hx hby (v := (1 : Int32)) (by decide) at_239 (pc' := 240) rfl ?_
          refine own_goto X114 hx hby at_240 (by decide) (pc' := 244) (by decide) ?_
          exact own_retZ X114 hx hby Bd.notSynchronized Bd.returns (Or.inr rfl) at_244 (by decide) (by decide) eH114 ⟨rfl, N114⟩
      · refine own_aload X84 hx hby rfl rfl at_138 (pc' := 140) rfl ?_
        rcases own_ite01 q_w8 with rfl | rfl
        · refine own_iload X84 hx hby rfl at_140 (pc' := 142) rfl ?_
          refine own_iload X84 hx hby rfl at_142 (pc' := 144) rfl ?_
          refine own_dload X84 hx hby rfl at_144 (pc' := 146) rfl ?_
          refine own_dload X84 hx hby rfl at_146 (pc' := 148) rfl ?_
          refine own_virtual X84 hx hby hZ (y := (⟨"com/example/bidfold/bidfold/Branching", "learn", "(IZDD)V"⟩ : MethodName)) (y' := (⟨"com/example/bidfold/bidfold/Branching", "learn", "(IZDD)V"⟩ : MethodName)) (C := "com/example/bidfold/bidfold/Branching") (rest := []) hown (hw _ (List.mem_of_getElem? (i := 31) rfl)) (hw _ (List.mem_of_getElem? (i := 32) rfl)) (notFace_of_selects (args := #[]) (mvT hZ (hw _ (List.mem_of_getElem? (i := 34) rfl)))) (hw _ (List.mem_of_getElem? (i := 34) rfl)) (hw _ (List.mem_of_getElem? (i := 33) rfl)) (hw _ (List.mem_of_getElem? (i := 35) rfl)) (hw _ (List.mem_of_getElem? (i := 10) rfl)) (by decide) (rm310 l Z a0 hw [] b19 v11 v12 b4_20 b6_20 (0 : UInt64) (0 : UInt64) (0 : Int32) (0 : Int32) h84 n0 Z0 F_b19_downFalls F_b19_downCounts V_b4_20 V_b6_20 (fun h1 h2 => (own_ld D_v11 D_v12 (own_fr _) (own_bn0 40) (by decide) h1 h2).1) (fun h1 h2 => (own_ld D_v11 D_v12 (own_fr _) (own_bn0 40) (by decide) h1 h2).2.1) g_b4_20 ne_b19_b4_20 (Ne.symm ne_b4_20_b6_20) g_b6_20 ne_b19_b6_20) eH84 (by rw [hml]; rfl) (a := b19) E_b19 (argsL := [(.int (1 : Int32)), (.int (0 : Int32)), (.double v11), (.double v12)]) rfl (lenOf pd_2 rfl) rfl at_148 (pc' := 151) rfl (by decide) (W := 0) (Nat.le_of_eq rfl) (by decide) (by decide) (by decide) (fun T117 h117 Lc117 v117r X117 eH117 hQ117 => ?_)
          obtain ⟨rfl, Nq117, Kq117, gq117_0, gq117_1⟩ := hQ117
          have N117 := Fr.app N84 Nq117
          replace E_b15 := E_b15.keep Kq117
          replace V_b15 := V_b15.keep Kq117 (ninS ne_b15_b4_20 (ninS ne_b15_b6_20 nin0))
          replace E_b16 := E_b16.keep Kq117
          replace V_b16 := V_b16.keep Kq117 (ninS ne_b16_b4_20 (ninS ne_b16_b6_20 nin0))
          replace E_b17 := E_b17.keep Kq117
          replace V_b17 := V_b17.keep Kq117 (ninS ne_b17_b4_20 (ninS ne_b17_b6_20 nin0))
          replace E_b18 := E_b18.keep Kq117
          replace V_b18 := V_b18.keep Kq117 (ninS ne_b18_b4_20 (ninS ne_b18_b6_20 nin0))
          replace E_b19 := E_b19.keep Kq117
          replace F_b19_downFalls := F_b19_downFalls.keep Kq117 (ninS ne_b19_b4_20 (ninS ne_b19_b6_20 nin0))
          replace F_b19_downCounts := F_b19_downCounts.keep Kq117 (ninS ne_b19_b4_20 (ninS ne_b19_b6_20 nin0))
          replace F_b19_upFalls := F_b19_upFalls.keep Kq117 (ninS ne_b19_b4_20 (ninS ne_b19_b6_20 nin0))
          replace F_b19_upCounts := F_b19_upCounts.keep Kq117 (ninS ne_b19_b4_20 (ninS ne_b19_b6_20 nin0))
          replace E_b4_20 := E_b4_20.keep Kq117
          replace E_b6_20 := E_b6_20.keep Kq117
          replace E_b8_20 := E_b8_20.keep Kq117
          replace V_b8_20 := V_b8_20.keep Kq117 (ninS (Ne.symm ne_b4_20_b8_20) (ninS (Ne.symm ne_b6_20_b8_20) nin0))
          replace E_b10_20 := E_b10_20.keep Kq117
          replace V_b10_20 := V_b10_20.keep Kq117 (ninS (Ne.symm ne_b4_20_b10_20) (ninS (Ne.symm ne_b6_20_b10_20) nin0))
          obtain ⟨v118, q_v118⟩ : ∃ z : UInt64, (if dle v11 (4517329193108106637 : UInt64) then (0 : UInt64) else (if dge v11 (4607182409792818153 : UInt64) then (0 : UInt64) else (FP.dadd (0 : UInt64) (FP.ddiv v12 v11)))) = z := ⟨_, rfl⟩
          have V_b4_20 : Ary tr Z h117 b4_20 .double [(.double (0 : UInt64)), (.double v118)] := by rw [← q_v118]; exact gq117_0
          obtain ⟨n119, q_n119⟩ : ∃ z : Int32, (if dle v11 (4517329193108106637 : UInt64) then (0 : Int32) else (if dge v11 (4607182409792818153 : UInt64) then (0 : Int32) else ((0 : Int32) + (1 : Int32)))) = z := ⟨_, rfl⟩
          have V_b6_20 : Ary tr Z h117 b6_20 .int [(.int (0 : Int32)), (.int n119)] := by rw [← q_n119]; exact gq117_1
          replace Z0 := Nat.le_trans Z0 Kq117.1
          have B_v118 : Bn v118 41 := q_v118 ▸ own_tr (own_bn0 40) (fun h1 h2 => (own_ld D_v11 D_v12 (own_fr _) (own_bn0 40) (by decide) h1 h2).2.2)
          refine own_iload X117 hx hby rfl at_151 (pc' := 153) rfl ?_
          refine own_iload X117 hx hby rfl at_153 (pc' := 155) rfl ?_
          refine own_dload X117 hx hby rfl at_155 (pc' := 157) rfl ?_
          refine own_dload X117 hx hby rfl at_157 (pc' := 159) rfl ?_
          refine own_aload X117 hx hby rfl rfl at_159 (pc' := 161) rfl ?_
          refine own_aload X117 hx hby rfl rfl at_161 (pc' := 163) rfl ?_
          refine own_aload X117 hx hby rfl rfl at_163 (pc' := 165) rfl ?_
          refine own_aload X117 hx hby rfl rfl at_165 (pc' := 167) rfl ?_
          refine own_static X117 hx hby hZ (y := (⟨"com/example/bidfold/bidfold/BranchingLearnPinLaw", "model", "(IZDD[D[I[D[I)V"⟩ : MethodName)) (rest := []) hown (hw _ (List.mem_of_getElem? (i := 37) rfl)) (hw _ (List.mem_of_getElem? (i := 38) rfl)) (hw _ (List.mem_of_getElem? (i := 40) rfl)) (hw _ (List.mem_of_getElem? (i := 39) rfl)) (by decide) (rm401 l Z a0 hw [] v5 v6 b15 b16 b17 b18 (0 : UInt64) (0 : UInt64) (0 : Int32) (0 : Int32) h117 n0 Z0 V_b15 V_b16 (fun h1 h2 => (own_lu D_v5 D_v6 (own_fr _) (own_bn0 40) (by decide) h1 h2).1) (fun h1 h2 => (own_lu D_v5 D_v6 (own_fr _) (own_bn0 40) (by decide) h1 h2).2.1) (fun h1 h2 => (own_lu D_v5 D_v6 (own_fr _) (own_bn0 40) (by decide) h1 h2).2.2.1) g_b15 (Ne.symm ne_b15_b16) g_b16) eH117 (by rw [hml]; rfl) (argsL := [(.int (0 : Int32)), (.int (1 : Int32)), (.double v5), (.double v6), (.ref b15), (.ref b16), (.ref b17), (.ref b18)]) rfl (lenOf pd_3 rfl) rfl at_167 (pc' := 170) rfl (by decide) (W := 0) (Nat.le_of_eq rfl) (by decide) (by decide) (by decide) (fun T120 h120 Lc120 v120r X120 eH120 hQ120 => ?_)
          obtain ⟨rfl, Nq120, Kq120, gq120_0, gq120_1⟩ := hQ120
          have N120 := Fr.app N117 Nq120
          replace E_b15 := E_b15.keep Kq120
          replace E_b16 := E_b16.keep Kq120
          replace E_b17 := E_b17.keep Kq120
          replace V_b17 := V_b17.keep Kq120 (ninS (Ne.symm ne_b15_b17) (ninS (Ne.symm ne_b16_b17) nin0))
          replace E_b18 := E_b18.keep Kq120
          replace V_b18 := V_b18.keep Kq120 (ninS (Ne.symm ne_b15_b18) (ninS (Ne.symm ne_b16_b18) nin0))
          replace E_b19 := E_b19.keep Kq120
          replace F_b19_downFalls := F_b19_downFalls.keep Kq120 (ninS (Ne.symm ne_b15_b19) (ninS (Ne.symm ne_b16_b19) nin0))
          replace F_b19_downCounts := F_b19_downCounts.keep Kq120 (ninS (Ne.symm ne_b15_b19) (ninS (Ne.symm ne_b16_b19) nin0))
          replace F_b19_upFalls := F_b19_upFalls.keep Kq120 (ninS (Ne.symm ne_b15_b19) (ninS (Ne.symm ne_b16_b19) nin0))
          replace F_b19_upCounts := F_b19_upCounts.keep Kq120 (ninS (Ne.symm ne_b15_b19) (ninS (Ne.symm ne_b16_b19) nin0))
          replace E_b4_20 := E_b4_20.keep Kq120
          replace V_b4_20 := V_b4_20.keep Kq120 (ninS (Ne.symm ne_b15_b4_20) (ninS (Ne.symm ne_b16_b4_20) nin0))
          replace E_b6_20 := E_b6_20.keep Kq120
          replace V_b6_20 := V_b6_20.keep Kq120 (ninS (Ne.symm ne_b15_b6_20) (ninS (Ne.symm ne_b16_b6_20) nin0))
          replace E_b8_20 := E_b8_20.keep Kq120
          replace V_b8_20 := V_b8_20.keep Kq120 (ninS (Ne.symm ne_b15_b8_20) (ninS (Ne.symm ne_b16_b8_20) nin0))
          replace E_b10_20 := E_b10_20.keep Kq120
          replace V_b10_20 := V_b10_20.keep Kq120 (ninS (Ne.symm ne_b15_b10_20) (ninS (Ne.symm ne_b16_b10_20) nin0))
          have V_b15 : Ary tr Z h120 b15 .double [(.double v85), (.double (0 : UInt64))] := by rw [← q_v85]; exact gq120_0
          have V_b16 : Ary tr Z h120 b16 .int [(.int n86), (.int (0 : Int32))] := by rw [← q_n86]; exact gq120_1
          replace Z0 := Nat.le_trans Z0 Kq120.1
          refine own_iload X120 hx hby rfl at_170 (pc' := 172) rfl ?_
          refine own_iload X120 hx hby rfl at_172 (pc' := 174) rfl ?_
          refine own_dload X120 hx hby rfl at_174 (pc' := 176) rfl ?_
          refine own_dload X120 hx hby rfl at_176 (pc' := 178) rfl ?_
          refine own_aload X120 hx hby rfl rfl at_178 (pc' := 180) rfl ?_
          refine own_aload X120 hx hby rfl rfl at_180 (pc' := 182) rfl ?_
          refine own_aload X120 hx hby rfl rfl at_182 (pc' := 184) rfl ?_
          refine own_aload X120 hx hby rfl rfl at_184 (pc' := 186) rfl ?_
          refine own_static X120 hx hby hZ (y := (⟨"com/example/bidfold/bidfold/BranchingLearnPinLaw", "model", "(IZDD[D[I[D[I)V"⟩ : MethodName)) (rest := []) hown (hw _ (List.mem_of_getElem? (i := 37) rfl)) (hw _ (List.mem_of_getElem? (i := 38) rfl)) (hw _ (List.mem_of_getElem? (i := 40) rfl)) (hw _ (List.mem_of_getElem? (i := 39) rfl)) (by decide) (rm410 l Z a0 hw [] v11 v12 b15 b16 b17 b18 (0 : UInt64) (0 : UInt64) (0 : Int32) (0 : Int32) h120 n0 Z0 V_b17 V_b18 (fun h1 h2 => (own_ld D_v11 D_v12 (own_fr _) (own_bn0 40) (by decide) h1 h2).1) (fun h1 h2 => (own_ld D_v11 D_v12 (own_fr _) (own_bn0 40) (by decide) h1 h2).2.1) g_b17 (Ne.symm ne_b17_b18) g_b18) eH120 (by rw [hml]; rfl) (argsL := [(.int (1 : Int32)), (.int (0 : Int32)), (.double v11), (.double v12), (.ref b15), (.ref b16), (.ref b17), (.ref b18)]) rfl (lenOf pd_3 rfl) rfl at_186 (pc' := 189) rfl (by decide) (W := 0) (Nat.le_of_eq rfl) (by decide) (by decide) (by decide) (fun T121 h121 Lc121 v121r X121 eH121 hQ121 => ?_)
          obtain ⟨rfl, Nq121, Kq121, gq121_0, gq121_1⟩ := hQ121
          have N121 := Fr.app N120 Nq121
          replace E_b15 := E_b15.keep Kq121
          replace V_b15 := V_b15.keep Kq121 (ninS ne_b15_b17 (ninS ne_b15_b18 nin0))
          replace E_b16 := E_b16.keep Kq121
          replace V_b16 := V_b16.keep Kq121 (ninS ne_b16_b17 (ninS ne_b16_b18 nin0))
          replace E_b17 := E_b17.keep Kq121
          replace E_b18 := E_b18.keep Kq121
          replace E_b19 := E_b19.keep Kq121
          replace F_b19_downFalls := F_b19_downFalls.keep Kq121 (ninS (Ne.symm ne_b17_b19) (ninS (Ne.symm ne_b18_b19) nin0))
          replace F_b19_downCounts := F_b19_downCounts.keep Kq121 (ninS (Ne.symm ne_b17_b19) (ninS (Ne.symm ne_b18_b19) nin0))
          replace F_b19_upFalls := F_b19_upFalls.keep Kq121 (ninS (Ne.symm ne_b17_b19) (ninS (Ne.symm ne_b18_b19) nin0))
          replace F_b19_upCounts := F_b19_upCounts.keep Kq121 (ninS (Ne.symm ne_b17_b19) (ninS (Ne.symm ne_b18_b19) nin0))
          replace E_b4_20 := E_b4_20.keep Kq121
          replace V_b4_20 := V_b4_20.keep Kq121 (ninS (Ne.symm ne_b17_b4_20) (ninS (Ne.symm ne_b18_b4_20) nin0))
          replace E_b6_20 := E_b6_20.keep Kq121
          replace V_b6_20 := V_b6_20.keep Kq121 (ninS (Ne.symm ne_b17_b6_20) (ninS (Ne.symm ne_b18_b6_20) nin0))
          replace E_b8_20 := E_b8_20.keep Kq121
          replace V_b8_20 := V_b8_20.keep Kq121 (ninS (Ne.symm ne_b17_b8_20) (ninS (Ne.symm ne_b18_b8_20) nin0))
          replace E_b10_20 := E_b10_20.keep Kq121
          replace V_b10_20 := V_b10_20.keep Kq121 (ninS (Ne.symm ne_b17_b10_20) (ninS (Ne.symm ne_b18_b10_20) nin0))
          have V_b17 : Ary tr Z h121 b17 .double [(.double (0 : UInt64)), (.double v118)] := by rw [← q_v118]; exact gq121_0
          have V_b18 : Ary tr Z h121 b18 .int [(.int (0 : Int32)), (.int n119)] := by rw [← q_n119]; exact gq121_1
          replace Z0 := Nat.le_trans Z0 Kq121.1
          refine own_aload X121 hx hby rfl rfl at_189 (pc' := 191) rfl ?_
          refine own_iconst X121 hx hby (v := (0 : Int32)) (by decide) at_191 (pc' := 192) rfl ?_
          refine own_dload X121 hx hby rfl at_192 (pc' := 194) rfl ?_
          refine own_virtual X121 hx hby hZ (y := (⟨"com/example/bidfold/bidfold/Branching", "leansIn", "(ID)Z"⟩ : MethodName)) (y' := (⟨"com/example/bidfold/bidfold/Branching", "leansIn", "(ID)Z"⟩ : MethodName)) (C := "com/example/bidfold/bidfold/Branching") (rest := []) hown (hw _ (List.mem_of_getElem? (i := 42) rfl)) (hw _ (List.mem_of_getElem? (i := 43) rfl)) (notFace_of_selects (args := #[]) (mvT hZ (hw _ (List.mem_of_getElem? (i := 45) rfl)))) (hw _ (List.mem_of_getElem? (i := 45) rfl)) (hw _ (List.mem_of_getElem? (i := 44) rfl)) (hw _ (List.mem_of_getElem? (i := 46) rfl)) (hw _ (List.mem_of_getElem? (i := 10) rfl)) (by decide) (rm50 l Z a0 hw [] b19 v14 b8_20 b10_20 v85 (0 : UInt64) n86 (0 : Int32) b4_20 b6_20 (0 : UInt64) v118 (0 : Int32) n119 h121 n0 Z0 F_b19_upFalls F_b19_upCounts V_b8_20 V_b10_20 F_b19_downFalls F_b19_downCounts V_b4_20 V_b6_20 (fun h => (own_fq B_v85 (by decide) h).nn) P1.nn ((own_fpu B_v85 (by decide)).mul P1 (by decide)).nn (fun h => (own_fq (own_bn0 40) (by decide) h).nn) ((own_fpu (own_bn0 40) (by decide)).mul P0 (by decide)).nn) eH121 (by rw [hml]; rfl) (a := b19) E_b19 (argsL := [(.int (0 : Int32)), (.double v14)]) rfl (lenOf pd_4 rfl) rfl at_194 (pc' := 197) rfl (by decide) (W := 0) (Nat.le_of_eq rfl) (by decide) (by decide) (by decide) (fun T122 h122 Lc122 v122r X122 eH122 hQ122 => ?_)
          obtain ⟨rfl, Nq122, rfl⟩ := hQ122
          have N122 := Fr.app N121 Nq122
          dsimp only [Option.toList, List.cons_append, List.nil_append]
          generalize q_r123 : (if dle (FP.dmul (if 0 < n86 then (FP.ddiv v85 (FP.i2d n86)) else (4607182418800017408 : UInt64)) (FP.dsub (4607182418800017408 : UInt64) v14)) (FP.dmul (if 0 < (0 : Int32) then (FP.ddiv (0 : UInt64) (FP.i2d (0 : Int32))) else (4607182418800017408 : UInt64)) v14) then (1 : Int32) else (0 : Int32)) = r123
          refine own_iconst X122 hx hby (v := (0 : Int32)) (by decide) at_197 (pc' := 198) rfl ?_
          refine own_dload X122 hx hby rfl at_198 (pc' := 200) rfl ?_
          refine own_aload X122 hx hby rfl rfl at_200 (pc' := 202) rfl ?_
          refine own_aload X122 hx hby rfl rfl at_202 (pc' := 204) rfl ?_
          refine own_aload X122 hx hby rfl rfl at_204 (pc' := 206) rfl ?_
          refine own_aload X122 hx hby rfl rfl at_206 (pc' := 208) rfl ?_
          refine own_static X122 hx hby hZ (y := (⟨"com/example/bidfold/bidfold/BranchingLearnPinLaw", "expect", "(ID[D[I[D[I)Z"⟩ : MethodName)) (rest := [(.int r123)]) hown (hw _ (List.mem_of_getElem? (i := 50) rfl)) (hw _ (List.mem_of_getElem? (i := 51) rfl)) (hw _ (List.mem_of_getElem? (i := 52) rfl)) (hw _ (List.mem_of_getElem? (i := 39) rfl)) (by decide) (rm70 l Z a0 hw [] v14 b15 b16 b17 b18 v85 (0 : UInt64) n86 (0 : Int32) (0 : UInt64) v118 (0 : Int32) n119 h121 n0 Z0 V_b15 V_b16 V_b17 V_b18 (fun h => (own_fq B_v85 (by decide) h).nn) (fun h => (own_fq (own_bn0 40) (by decide) h).nn) P1.nn ((own_fpu B_v85 (by decide)).mul P1 (by decide)).nn ((own_fpu (own_bn0 40) (by decide)).mul P0 (by decide)).nn) eH122 (by rw [hml]; rfl) (argsL := [(.int (0 : Int32)), (.double v14), (.ref b15), (.ref b16), (.ref b17), (.ref b18)]) rfl (lenOf pd_5 rfl) rfl at_208 (pc' := 211) rfl (by decide) (W := 1) (Nat.le_of_eq rfl) (by decide) (by decide) (by decide) (fun T124 h124 Lc124 v124r X124 eH124 hQ124 => ?_)
          obtain ⟨rfl, Nq124, rfl⟩ := hQ124
          have N124 := Fr.app N122 Nq124
          dsimp only [Option.toList, List.cons_append, List.nil_append]
          generalize q_r125 : (if dle (FP.dmul (if 0 < n86 then (FP.ddiv v85 (FP.i2d n86)) else (4607182418800017408 : UInt64)) (FP.dsub (4607182418800017408 : UInt64) v14)) (FP.dmul (if 0 < (0 : Int32) then (FP.ddiv (0 : UInt64) (FP.i2d (0 : Int32))) else (4607182418800017408 : UInt64)) v14) then (1 : Int32) else (0 : Int32)) = r125
          have hk126 : r123 = r125 := q_r123.symm.trans q_r125
          refine own_icF X124 hx hby at_211 (own_ic_ne_p hk126) (pc' := 214) rfl ?_
          refine own_aload X124 hx hby rfl rfl at_214 (pc' := 216) rfl ?_
          refine own_iconst X124 hx hby (v := (1 : Int32)) (by decide) at_216 (pc' := 217) rfl ?_
          refine own_dload X124 hx hby rfl at_217 (pc' := 219) rfl ?_
          refine own_virtual X124 hx hby hZ (y := (⟨"com/example/bidfold/bidfold/Branching", "leansIn", "(ID)Z"⟩ : MethodName)) (y' := (⟨"com/example/bidfold/bidfold/Branching", "leansIn", "(ID)Z"⟩ : MethodName)) (C := "com/example/bidfold/bidfold/Branching") (rest := []) hown (hw _ (List.mem_of_getElem? (i := 42) rfl)) (hw _ (List.mem_of_getElem? (i := 43) rfl)) (notFace_of_selects (args := #[]) (mvT hZ (hw _ (List.mem_of_getElem? (i := 45) rfl)))) (hw _ (List.mem_of_getElem? (i := 45) rfl)) (hw _ (List.mem_of_getElem? (i := 44) rfl)) (hw _ (List.mem_of_getElem? (i := 46) rfl)) (hw _ (List.mem_of_getElem? (i := 10) rfl)) (by decide) (rm51 l Z a0 hw [] b19 v14 b8_20 b10_20 v85 (0 : UInt64) n86 (0 : Int32) b4_20 b6_20 (0 : UInt64) v118 (0 : Int32) n119 h121 n0 Z0 F_b19_upFalls F_b19_upCounts V_b8_20 V_b10_20 F_b19_downFalls F_b19_downCounts V_b4_20 V_b6_20 (fun h => (own_fq (own_bn0 40) (by decide) h).nn) P1.nn ((own_fpu (own_bn0 40) (by decide)).mul P1 (by decide)).nn (fun h => (own_fq B_v118 (by decide) h).nn) ((own_fpu B_v118 (by decide)).mul P0 (by decide)).nn) eH124 (by rw [hml]; rfl) (a := b19) E_b19 (argsL := [(.int (1 : Int32)), (.double v14)]) rfl (lenOf pd_4 rfl) rfl at_219 (pc' := 222) rfl (by decide) (W := 0) (Nat.le_of_eq rfl) (by decide) (by decide) (by decide) (fun T127 h127 Lc127 v127r X127 eH127 hQ127 => ?_)
          obtain ⟨rfl, Nq127, rfl⟩ := hQ127
          have N127 := Fr.app N124 Nq127
          dsimp only [Option.toList, List.cons_append, List.nil_append]
          generalize q_r128 : (if dle (FP.dmul (if 0 < (0 : Int32) then (FP.ddiv (0 : UInt64) (FP.i2d (0 : Int32))) else (4607182418800017408 : UInt64)) (FP.dsub (4607182418800017408 : UInt64) v14)) (FP.dmul (if 0 < n119 then (FP.ddiv v118 (FP.i2d n119)) else (4607182418800017408 : UInt64)) v14) then (1 : Int32) else (0 : Int32)) = r128
          refine own_iconst X127 hx hby (v := (1 : Int32)) (by decide) at_222 (pc' := 223) rfl ?_
          refine own_dload X127 hx hby rfl at_223 (pc' := 225) rfl ?_
          refine own_aload X127 hx hby rfl rfl at_225 (pc' := 227) rfl ?_
          refine own_aload X127 hx hby rfl rfl at_227 (pc' := 229) rfl ?_
          refine own_aload X127 hx hby rfl rfl at_229 (pc' := 231) rfl ?_
          refine own_aload X127 hx hby rfl rfl at_231 (pc' := 233) rfl ?_
          refine own_static X127 hx hby hZ (y := (⟨"com/example/bidfold/bidfold/BranchingLearnPinLaw", "expect", "(ID[D[I[D[I)Z"⟩ : MethodName)) (rest := [(.int r128)]) hown (hw _ (List.mem_of_getElem? (i := 50) rfl)) (hw _ (List.mem_of_getElem? (i := 51) rfl)) (hw _ (List.mem_of_getElem? (i := 52) rfl)) (hw _ (List.mem_of_getElem? (i := 39) rfl)) (by decide) (rm71 l Z a0 hw [] v14 b15 b16 b17 b18 v85 (0 : UInt64) n86 (0 : Int32) (0 : UInt64) v118 (0 : Int32) n119 h121 n0 Z0 V_b15 V_b16 V_b17 V_b18 (fun h => (own_fq (own_bn0 40) (by decide) h).nn) (fun h => (own_fq B_v118 (by decide) h).nn) P1.nn ((own_fpu (own_bn0 40) (by decide)).mul P1 (by decide)).nn ((own_fpu B_v118 (by decide)).mul P0 (by decide)).nn) eH127 (by rw [hml]; rfl) (argsL := [(.int (1 : Int32)), (.double v14), (.ref b15), (.ref b16), (.ref b17), (.ref b18)]) rfl (lenOf pd_5 rfl) rfl at_233 (pc' := 236) rfl (by decide) (W := 1) (Nat.le_of_eq rfl) (by decide) (by decide) (by decide) (fun T129 h129 Lc129 v129r X129 eH129 hQ129 => ?_)
          obtain ⟨rfl, Nq129, rfl⟩ := hQ129
          have N129 := Fr.app N127 Nq129
          dsimp only [Option.toList, List.cons_append, List.nil_append]
          generalize q_r130 : (if dle (FP.dmul (if 0 < (0 : Int32) then (FP.ddiv (0 : UInt64) (FP.i2d (0 : Int32))) else (4607182418800017408 : UInt64)) (FP.dsub (4607182418800017408 : UInt64) v14)) (FP.dmul (if 0 < n119 then (FP.ddiv v118 (FP.i2d n119)) else (4607182418800017408 : UInt64)) v14) then (1 : Int32) else (0 : Int32)) = r130
          have hk131 : r128 = r130 := q_r128.symm.trans q_r130
          refine own_icF X129 hx hby at_236 (own_ic_ne_p hk131) (pc' := 239) rfl ?_
          refine own_iconst X129 hx hby (v := (1 : Int32)) (by decide) at_239 (pc' := 240) rfl ?_
          refine own_goto X129 hx hby at_240 (by decide) (pc' := 244) (by decide) ?_
          exact own_retZ X129 hx hby Bd.notSynchronized Bd.returns (Or.inr rfl) at_244 (by decide) (by decide) eH129 ⟨rfl, N129⟩
        · refine own_iload X84 hx hby rfl at_140 (pc' := 142) rfl ?_
          refine own_iload X84 hx hby rfl at_142 (pc' := 144) rfl ?_
          refine own_dload X84 hx hby rfl at_144 (pc' := 146) rfl ?_
          refine own_dload X84 hx hby rfl at_146 (pc' := 148) rfl ?_
          refine own_virtual X84 hx hby hZ (y := (⟨"com/example/bidfold/bidfold/Branching", "learn", "(IZDD)V"⟩ : MethodName)) (y' := (⟨"com/example/bidfold/bidfold/Branching", "learn", "(IZDD)V"⟩ : MethodName)) (C := "com/example/bidfold/bidfold/Branching") (rest := []) hown (hw _ (List.mem_of_getElem? (i := 31) rfl)) (hw _ (List.mem_of_getElem? (i := 32) rfl)) (notFace_of_selects (args := #[]) (mvT hZ (hw _ (List.mem_of_getElem? (i := 34) rfl)))) (hw _ (List.mem_of_getElem? (i := 34) rfl)) (hw _ (List.mem_of_getElem? (i := 33) rfl)) (hw _ (List.mem_of_getElem? (i := 35) rfl)) (hw _ (List.mem_of_getElem? (i := 10) rfl)) (by decide) (rm311 l Z a0 hw [] b19 v11 v12 b8_20 b10_20 v85 (0 : UInt64) n86 (0 : Int32) h84 n0 Z0 F_b19_upFalls F_b19_upCounts V_b8_20 V_b10_20 (fun h1 h2 => (own_lu D_v11 D_v12 (own_fr _) (own_bn0 40) (by decide) h1 h2).1) (fun h1 h2 => (own_lu D_v11 D_v12 (own_fr _) (own_bn0 40) (by decide) h1 h2).2.1) (fun h1 h2 => (own_lu D_v11 D_v12 (own_fr _) (own_bn0 40) (by decide) h1 h2).2.2.1) g_b8_20 ne_b19_b8_20 (Ne.symm ne_b8_20_b10_20) g_b10_20 ne_b19_b10_20) eH84 (by rw [hml]; rfl) (a := b19) E_b19 (argsL := [(.int (1 : Int32)), (.int (1 : Int32)), (.double v11), (.double v12)]) rfl (lenOf pd_2 rfl) rfl at_148 (pc' := 151) rfl (by decide) (W := 0) (Nat.le_of_eq rfl) (by decide) (by decide) (by decide) (fun T132 h132 Lc132 v132r X132 eH132 hQ132 => ?_)
          obtain ⟨rfl, Nq132, Kq132, gq132_0, gq132_1⟩ := hQ132
          have N132 := Fr.app N84 Nq132
          replace E_b15 := E_b15.keep Kq132
          replace V_b15 := V_b15.keep Kq132 (ninS ne_b15_b8_20 (ninS ne_b15_b10_20 nin0))
          replace E_b16 := E_b16.keep Kq132
          replace V_b16 := V_b16.keep Kq132 (ninS ne_b16_b8_20 (ninS ne_b16_b10_20 nin0))
          replace E_b17 := E_b17.keep Kq132
          replace V_b17 := V_b17.keep Kq132 (ninS ne_b17_b8_20 (ninS ne_b17_b10_20 nin0))
          replace E_b18 := E_b18.keep Kq132
          replace V_b18 := V_b18.keep Kq132 (ninS ne_b18_b8_20 (ninS ne_b18_b10_20 nin0))
          replace E_b19 := E_b19.keep Kq132
          replace F_b19_downFalls := F_b19_downFalls.keep Kq132 (ninS ne_b19_b8_20 (ninS ne_b19_b10_20 nin0))
          replace F_b19_downCounts := F_b19_downCounts.keep Kq132 (ninS ne_b19_b8_20 (ninS ne_b19_b10_20 nin0))
          replace F_b19_upFalls := F_b19_upFalls.keep Kq132 (ninS ne_b19_b8_20 (ninS ne_b19_b10_20 nin0))
          replace F_b19_upCounts := F_b19_upCounts.keep Kq132 (ninS ne_b19_b8_20 (ninS ne_b19_b10_20 nin0))
          replace E_b4_20 := E_b4_20.keep Kq132
          replace V_b4_20 := V_b4_20.keep Kq132 (ninS ne_b4_20_b8_20 (ninS ne_b4_20_b10_20 nin0))
          replace E_b6_20 := E_b6_20.keep Kq132
          replace V_b6_20 := V_b6_20.keep Kq132 (ninS ne_b6_20_b8_20 (ninS ne_b6_20_b10_20 nin0))
          replace E_b8_20 := E_b8_20.keep Kq132
          replace E_b10_20 := E_b10_20.keep Kq132
          obtain ⟨v133, q_v133⟩ : ∃ z : UInt64, (if dle v11 (4517329193108106637 : UInt64) then (0 : UInt64) else (if dge v11 (4607182409792818153 : UInt64) then (0 : UInt64) else (FP.dadd (0 : UInt64) (FP.ddiv v12 (FP.dsub (4607182418800017408 : UInt64) v11))))) = z := ⟨_, rfl⟩
          have V_b8_20 : Ary tr Z h132 b8_20 .double [(.double v85), (.double v133)] := by rw [← q_v133]; exact gq132_0
          obtain ⟨n134, q_n134⟩ : ∃ z : Int32, (if dle v11 (4517329193108106637 : UInt64) then (0 : Int32) else (if dge v11 (4607182409792818153 : UInt64) then (0 : Int32) else ((0 : Int32) + (1 : Int32)))) = z := ⟨_, rfl⟩
          have V_b10_20 : Ary tr Z h132 b10_20 .int [(.int n86), (.int n134)] := by rw [← q_n134]; exact gq132_1
          replace Z0 := Nat.le_trans Z0 Kq132.1
          have B_v133 : Bn v133 41 := q_v133 ▸ own_tr (own_bn0 40) (fun h1 h2 => (own_lu D_v11 D_v12 (own_fr _) (own_bn0 40) (by decide) h1 h2).2.2.2)
          refine own_iload X132 hx hby rfl at_151 (pc' := 153) rfl ?_
          refine own_iload X132 hx hby rfl at_153 (pc' := 155) rfl ?_
          refine own_dload X132 hx hby rfl at_155 (pc' := 157) rfl ?_
          refine own_dload X132 hx hby rfl at_157 (pc' := 159) rfl ?_
          refine own_aload X132 hx hby rfl rfl at_159 (pc' := 161) rfl ?_
          refine own_aload X132 hx hby rfl rfl at_161 (pc' := 163) rfl ?_
          refine own_aload X132 hx hby rfl rfl at_163 (pc' := 165) rfl ?_
          refine own_aload X132 hx hby rfl rfl at_165 (pc' := 167) rfl ?_
          refine own_static X132 hx hby hZ (y := (⟨"com/example/bidfold/bidfold/BranchingLearnPinLaw", "model", "(IZDD[D[I[D[I)V"⟩ : MethodName)) (rest := []) hown (hw _ (List.mem_of_getElem? (i := 37) rfl)) (hw _ (List.mem_of_getElem? (i := 38) rfl)) (hw _ (List.mem_of_getElem? (i := 40) rfl)) (hw _ (List.mem_of_getElem? (i := 39) rfl)) (by decide) (rm401 l Z a0 hw [] v5 v6 b15 b16 b17 b18 (0 : UInt64) (0 : UInt64) (0 : Int32) (0 : Int32) h132 n0 Z0 V_b15 V_b16 (fun h1 h2 => (own_lu D_v5 D_v6 (own_fr _) (own_bn0 40) (by decide) h1 h2).1) (fun h1 h2 => (own_lu D_v5 D_v6 (own_fr _) (own_bn0 40) (by decide) h1 h2).2.1) (fun h1 h2 => (own_lu D_v5 D_v6 (own_fr _) (own_bn0 40) (by decide) h1 h2).2.2.1) g_b15 (Ne.symm ne_b15_b16) g_b16) eH132 (by rw [hml]; rfl) (argsL := [(.int (0 : Int32)), (.int (1 : Int32)), (.double v5), (.double v6), (.ref b15), (.ref b16), (.ref b17), (.ref b18)]) rfl (lenOf pd_3 rfl) rfl at_167 (pc' := 170) rfl (by decide) (W := 0) (Nat.le_of_eq rfl) (by decide) (by decide) (by decide) (fun T135 h135 Lc135 v135r X135 eH135 hQ135 => ?_)
          obtain ⟨rfl, Nq135, Kq135, gq135_0, gq135_1⟩ := hQ135
          have N135 := Fr.app N132 Nq135
          replace E_b15 := E_b15.keep Kq135
          replace E_b16 := E_b16.keep Kq135
          replace E_b17 := E_b17.keep Kq135
          replace V_b17 := V_b17.keep Kq135 (ninS (Ne.symm ne_b15_b17) (ninS (Ne.symm ne_b16_b17) nin0))
          replace E_b18 := E_b18.keep Kq135
          replace V_b18 := V_b18.keep Kq135 (ninS (Ne.symm ne_b15_b18) (ninS (Ne.symm ne_b16_b18) nin0))
          replace E_b19 := E_b19.keep Kq135
          replace F_b19_downFalls := F_b19_downFalls.keep Kq135 (ninS (Ne.symm ne_b15_b19) (ninS (Ne.symm ne_b16_b19) nin0))
          replace F_b19_downCounts := F_b19_downCounts.keep Kq135 (ninS (Ne.symm ne_b15_b19) (ninS (Ne.symm ne_b16_b19) nin0))
          replace F_b19_upFalls := F_b19_upFalls.keep Kq135 (ninS (Ne.symm ne_b15_b19) (ninS (Ne.symm ne_b16_b19) nin0))
          replace F_b19_upCounts := F_b19_upCounts.keep Kq135 (ninS (Ne.symm ne_b15_b19) (ninS (Ne.symm ne_b16_b19) nin0))
          replace E_b4_20 := E_b4_20.keep Kq135
          replace V_b4_20 := V_b4_20.keep Kq135 (ninS (Ne.symm ne_b15_b4_20) (ninS (Ne.symm ne_b16_b4_20) nin0))
          replace E_b6_20 := E_b6_20.keep Kq135
          replace V_b6_20 := V_b6_20.keep Kq135 (ninS (Ne.symm ne_b15_b6_20) (ninS (Ne.symm ne_b16_b6_20) nin0))
          replace E_b8_20 := E_b8_20.keep Kq135
          replace V_b8_20 := V_b8_20.keep Kq135 (ninS (Ne.symm ne_b15_b8_20) (ninS (Ne.symm ne_b16_b8_20) nin0))
          replace E_b10_20 := E_b10_20.keep Kq135
          replace V_b10_20 := V_b10_20.keep Kq135 (ninS (Ne.symm ne_b15_b10_20) (ninS (Ne.symm ne_b16_b10_20) nin0))
          have V_b15 : Ary tr Z h135 b15 .double [(.double v85), (.double (0 : UInt64))] := by rw [← q_v85]; exact gq135_0
          have V_b16 : Ary tr Z h135 b16 .int [(.int n86), (.int (0 : Int32))] := by rw [← q_n86]; exact gq135_1
          replace Z0 := Nat.le_trans Z0 Kq135.1
          refine own_iload X135 hx hby rfl at_170 (pc' := 172) rfl ?_
          refine own_iload X135 hx hby rfl at_172 (pc' := 174) rfl ?_
          refine own_dload X135 hx hby rfl at_174 (pc' := 176) rfl ?_
          refine own_dload X135 hx hby rfl at_176 (pc' := 178) rfl ?_
          refine own_aload X135 hx hby rfl rfl at_178 (pc' := 180) rfl ?_
          refine own_aload X135 hx hby rfl rfl at_180 (pc' := 182) rfl ?_
          refine own_aload X135 hx hby rfl rfl at_182 (pc' := 184) rfl ?_
          refine own_aload X135 hx hby rfl rfl at_184 (pc' := 186) rfl ?_
          refine own_static X135 hx hby hZ (y := (⟨"com/example/bidfold/bidfold/BranchingLearnPinLaw", "model", "(IZDD[D[I[D[I)V"⟩ : MethodName)) (rest := []) hown (hw _ (List.mem_of_getElem? (i := 37) rfl)) (hw _ (List.mem_of_getElem? (i := 38) rfl)) (hw _ (List.mem_of_getElem? (i := 40) rfl)) (hw _ (List.mem_of_getElem? (i := 39) rfl)) (by decide) (rm411 l Z a0 hw [] v11 v12 b15 b16 b17 b18 v85 (0 : UInt64) n86 (0 : Int32) h135 n0 Z0 V_b15 V_b16 (fun h1 h2 => (own_lu D_v11 D_v12 (own_fr _) (own_bn0 40) (by decide) h1 h2).1) (fun h1 h2 => (own_lu D_v11 D_v12 (own_fr _) (own_bn0 40) (by decide) h1 h2).2.1) (fun h1 h2 => (own_lu D_v11 D_v12 (own_fr _) (own_bn0 40) (by decide) h1 h2).2.2.1) g_b15 (Ne.symm ne_b15_b16) g_b16) eH135 (by rw [hml]; rfl) (argsL := [(.int (1 : Int32)), (.int (1 : Int32)), (.double v11), (.double v12), (.ref b15), (.ref b16), (.ref b17), (.ref b18)]) rfl (lenOf pd_3 rfl) rfl at_186 (pc' := 189) rfl (by decide) (W := 0) (Nat.le_of_eq rfl) (by decide) (by decide) (by decide) (fun T136 h136 Lc136 v136r X136 eH136 hQ136 => ?_)
          obtain ⟨rfl, Nq136, Kq136, gq136_0, gq136_1⟩ := hQ136
          have N136 := Fr.app N135 Nq136
          replace E_b15 := E_b15.keep Kq136
          replace E_b16 := E_b16.keep Kq136
          replace E_b17 := E_b17.keep Kq136
          replace V_b17 := V_b17.keep Kq136 (ninS (Ne.symm ne_b15_b17) (ninS (Ne.symm ne_b16_b17) nin0))
          replace E_b18 := E_b18.keep Kq136
          replace V_b18 := V_b18.keep Kq136 (ninS (Ne.symm ne_b15_b18) (ninS (Ne.symm ne_b16_b18) nin0))
          replace E_b19 := E_b19.keep Kq136
          replace F_b19_downFalls := F_b19_downFalls.keep Kq136 (ninS (Ne.symm ne_b15_b19) (ninS (Ne.symm ne_b16_b19) nin0))
          replace F_b19_downCounts := F_b19_downCounts.keep Kq136 (ninS (Ne.symm ne_b15_b19) (ninS (Ne.symm ne_b16_b19) nin0))
          replace F_b19_upFalls := F_b19_upFalls.keep Kq136 (ninS (Ne.symm ne_b15_b19) (ninS (Ne.symm ne_b16_b19) nin0))
          replace F_b19_upCounts := F_b19_upCounts.keep Kq136 (ninS (Ne.symm ne_b15_b19) (ninS (Ne.symm ne_b16_b19) nin0))
          replace E_b4_20 := E_b4_20.keep Kq136
          replace V_b4_20 := V_b4_20.keep Kq136 (ninS (Ne.symm ne_b15_b4_20) (ninS (Ne.symm ne_b16_b4_20) nin0))
          replace E_b6_20 := E_b6_20.keep Kq136
          replace V_b6_20 := V_b6_20.keep Kq136 (ninS (Ne.symm ne_b15_b6_20) (ninS (Ne.symm ne_b16_b6_20) nin0))
          replace E_b8_20 := E_b8_20.keep Kq136
          replace V_b8_20 := V_b8_20.keep Kq136 (ninS (Ne.symm ne_b15_b8_20) (ninS (Ne.symm ne_b16_b8_20) nin0))
          replace E_b10_20 := E_b10_20.keep Kq136
          replace V_b10_20 := V_b10_20.keep Kq136 (ninS (Ne.symm ne_b15_b10_20) (ninS (Ne.symm ne_b16_b10_20) nin0))
          have V_b15 : Ary tr Z h136 b15 .double [(.double v85), (.double v133)] := by rw [← q_v133]; exact gq136_0
          have V_b16 : Ary tr Z h136 b16 .int [(.int n86), (.int n134)] := by rw [← q_n134]; exact gq136_1
          replace Z0 := Nat.le_trans Z0 Kq136.1
          refine own_aload X136 hx hby rfl rfl at_189 (pc' := 191) rfl ?_
          refine own_iconst X136 hx hby (v := (0 : Int32)) (by decide) at_191 (pc' := 192) rfl ?_
          refine own_dload X136 hx hby rfl at_192 (pc' := 194) rfl ?_
          refine own_virtual X136 hx hby hZ (y := (⟨"com/example/bidfold/bidfold/Branching", "leansIn", "(ID)Z"⟩ : MethodName)) (y' := (⟨"com/example/bidfold/bidfold/Branching", "leansIn", "(ID)Z"⟩ : MethodName)) (C := "com/example/bidfold/bidfold/Branching") (rest := []) hown (hw _ (List.mem_of_getElem? (i := 42) rfl)) (hw _ (List.mem_of_getElem? (i := 43) rfl)) (notFace_of_selects (args := #[]) (mvT hZ (hw _ (List.mem_of_getElem? (i := 45) rfl)))) (hw _ (List.mem_of_getElem? (i := 45) rfl)) (hw _ (List.mem_of_getElem? (i := 44) rfl)) (hw _ (List.mem_of_getElem? (i := 46) rfl)) (hw _ (List.mem_of_getElem? (i := 10) rfl)) (by decide) (rm50 l Z a0 hw [] b19 v14 b8_20 b10_20 v85 v133 n86 n134 b4_20 b6_20 (0 : UInt64) (0 : UInt64) (0 : Int32) (0 : Int32) h136 n0 Z0 F_b19_upFalls F_b19_upCounts V_b8_20 V_b10_20 F_b19_downFalls F_b19_downCounts V_b4_20 V_b6_20 (fun h => (own_fq B_v85 (by decide) h).nn) P1.nn ((own_fpu B_v85 (by decide)).mul P1 (by decide)).nn (fun h => (own_fq (own_bn0 40) (by decide) h).nn) ((own_fpu (own_bn0 40) (by decide)).mul P0 (by decide)).nn) eH136 (by rw [hml]; rfl) (a := b19) E_b19 (argsL := [(.int (0 : Int32)), (.double v14)]) rfl (lenOf pd_4 rfl) rfl at_194 (pc' := 197) rfl (by decide) (W := 0) (Nat.le_of_eq rfl) (by decide) (by decide) (by decide) (fun T137 h137 Lc137 v137r X137 eH137 hQ137 => ?_)
          obtain ⟨rfl, Nq137, rfl⟩ := hQ137
          have N137 := Fr.app N136 Nq137
          dsimp only [Option.toList, List.cons_append, List.nil_append]
          generalize q_r138 : (if dle (FP.dmul (if 0 < n86 then (FP.ddiv v85 (FP.i2d n86)) else (4607182418800017408 : UInt64)) (FP.dsub (4607182418800017408 : UInt64) v14)) (FP.dmul (if 0 < (0 : Int32) then (FP.ddiv (0 : UInt64) (FP.i2d (0 : Int32))) else (4607182418800017408 : UInt64)) v14) then (1 : Int32) else (0 : Int32)) = r138
          refine own_iconst X137 hx hby (v := (0 : Int32)) (by decide) at_197 (pc' := 198) rfl ?_
          refine own_dload X137 hx hby rfl at_198 (pc' := 200) rfl ?_
          refine own_aload X137 hx hby rfl rfl at_200 (pc' := 202) rfl ?_
          refine own_aload X137 hx hby rfl rfl at_202 (pc' := 204) rfl ?_
          refine own_aload X137 hx hby rfl rfl at_204 (pc' := 206) rfl ?_
          refine own_aload X137 hx hby rfl rfl at_206 (pc' := 208) rfl ?_
          refine own_static X137 hx hby hZ (y := (⟨"com/example/bidfold/bidfold/BranchingLearnPinLaw", "expect", "(ID[D[I[D[I)Z"⟩ : MethodName)) (rest := [(.int r138)]) hown (hw _ (List.mem_of_getElem? (i := 50) rfl)) (hw _ (List.mem_of_getElem? (i := 51) rfl)) (hw _ (List.mem_of_getElem? (i := 52) rfl)) (hw _ (List.mem_of_getElem? (i := 39) rfl)) (by decide) (rm70 l Z a0 hw [] v14 b15 b16 b17 b18 v85 v133 n86 n134 (0 : UInt64) (0 : UInt64) (0 : Int32) (0 : Int32) h136 n0 Z0 V_b15 V_b16 V_b17 V_b18 (fun h => (own_fq B_v85 (by decide) h).nn) (fun h => (own_fq (own_bn0 40) (by decide) h).nn) P1.nn ((own_fpu B_v85 (by decide)).mul P1 (by decide)).nn ((own_fpu (own_bn0 40) (by decide)).mul P0 (by decide)).nn) eH137 (by rw [hml]; rfl) (argsL := [(.int (0 : Int32)), (.double v14), (.ref b15), (.ref b16), (.ref b17), (.ref b18)]) rfl (lenOf pd_5 rfl) rfl at_208 (pc' := 211) rfl (by decide) (W := 1) (Nat.le_of_eq rfl) (by decide) (by decide) (by decide) (fun T139 h139 Lc139 v139r X139 eH139 hQ139 => ?_)
          obtain ⟨rfl, Nq139, rfl⟩ := hQ139
          have N139 := Fr.app N137 Nq139
          dsimp only [Option.toList, List.cons_append, List.nil_append]
          generalize q_r140 : (if dle (FP.dmul (if 0 < n86 then (FP.ddiv v85 (FP.i2d n86)) else (4607182418800017408 : UInt64)) (FP.dsub (4607182418800017408 : UInt64) v14)) (FP.dmul (if 0 < (0 : Int32) then (FP.ddiv (0 : UInt64) (FP.i2d (0 : Int32))) else (4607182418800017408 : UInt64)) v14) then (1 : Int32) else (0 : Int32)) = r140
          have hk141 : r138 = r140 := q_r138.symm.trans q_r140
          refine own_icF X139 hx hby at_211 (own_ic_ne_p hk141) (pc' := 214) rfl ?_
          refine own_aload X139 hx hby rfl rfl at_214 (pc' := 216) rfl ?_
          refine own_iconst X139 hx hby (v := (1 : Int32)) (by decide) at_216 (pc' := 217) rfl ?_
          refine own_dload X139 hx hby rfl at_217 (pc' := 219) rfl ?_
          refine own_virtual X139 hx hby hZ (y := (⟨"com/example/bidfold/bidfold/Branching", "leansIn", "(ID)Z"⟩ : MethodName)) (y' := (⟨"com/example/bidfold/bidfold/Branching", "leansIn", "(ID)Z"⟩ : MethodName)) (C := "com/example/bidfold/bidfold/Branching") (rest := []) hown (hw _ (List.mem_of_getElem? (i := 42) rfl)) (hw _ (List.mem_of_getElem? (i := 43) rfl)) (notFace_of_selects (args := #[]) (mvT hZ (hw _ (List.mem_of_getElem? (i := 45) rfl)))) (hw _ (List.mem_of_getElem? (i := 45) rfl)) (hw _ (List.mem_of_getElem? (i := 44) rfl)) (hw _ (List.mem_of_getElem? (i := 46) rfl)) (hw _ (List.mem_of_getElem? (i := 10) rfl)) (by decide) (rm51 l Z a0 hw [] b19 v14 b8_20 b10_20 v85 v133 n86 n134 b4_20 b6_20 (0 : UInt64) (0 : UInt64) (0 : Int32) (0 : Int32) h136 n0 Z0 F_b19_upFalls F_b19_upCounts V_b8_20 V_b10_20 F_b19_downFalls F_b19_downCounts V_b4_20 V_b6_20 (fun h => (own_fq B_v133 (by decide) h).nn) P1.nn ((own_fpu B_v133 (by decide)).mul P1 (by decide)).nn (fun h => (own_fq (own_bn0 40) (by decide) h).nn) ((own_fpu (own_bn0 40) (by decide)).mul P0 (by decide)).nn) eH139 (by rw [hml]; rfl) (a := b19) E_b19 (argsL := [(.int (1 : Int32)), (.double v14)]) rfl (lenOf pd_4 rfl) rfl at_219 (pc' := 222) rfl (by decide) (W := 0) (Nat.le_of_eq rfl) (by decide) (by decide) (by decide) (fun T142 h142 Lc142 v142r X142 eH142 hQ142 => ?_)
          obtain ⟨rfl, Nq142, rfl⟩ := hQ142
          have N142 := Fr.app N139 Nq142
          dsimp only [Option.toList, List.cons_append, List.nil_append]
          generalize q_r143 : (if dle (FP.dmul (if 0 < n134 then (FP.ddiv v133 (FP.i2d n134)) else (4607182418800017408 : UInt64)) (FP.dsub (4607182418800017408 : UInt64) v14)) (FP.dmul (if 0 < (0 : Int32) then (FP.ddiv (0 : UInt64) (FP.i2d (0 : Int32))) else (4607182418800017408 : UInt64)) v14) then (1 : Int32) else (0 : Int32)) = r143
          refine own_iconst X142 hx hby (v := (1 : Int32)) (by decide) at_222 (pc' := 223) rfl ?_
          refine own_dload X142 hx hby rfl at_223 (pc' := 225) rfl ?_
          refine own_aload X142 hx hby rfl rfl at_225 (pc' := 227) rfl ?_
          refine own_aload X142 hx hby rfl rfl at_227 (pc' := 229) rfl ?_
          refine own_aload X142 hx hby rfl rfl at_229 (pc' := 231) rfl ?_
          refine own_aload X142 hx hby rfl rfl at_231 (pc' := 233) rfl ?_
          refine own_static X142 hx hby hZ (y := (⟨"com/example/bidfold/bidfold/BranchingLearnPinLaw", "expect", "(ID[D[I[D[I)Z"⟩ : MethodName)) (rest := [(.int r143)]) hown (hw _ (List.mem_of_getElem? (i := 50) rfl)) (hw _ (List.mem_of_getElem? (i := 51) rfl)) (hw _ (List.mem_of_getElem? (i := 52) rfl)) (hw _ (List.mem_of_getElem? (i := 39) rfl)) (by decide) (rm71 l Z a0 hw [] v14 b15 b16 b17 b18 v85 v133 n86 n134 (0 : UInt64) (0 : UInt64) (0 : Int32) (0 : Int32) h136 n0 Z0 V_b15 V_b16 V_b17 V_b18 (fun h => (own_fq B_v133 (by decide) h).nn) (fun h => (own_fq (own_bn0 40) (by decide) h).nn) P1.nn ((own_fpu B_v133 (by decide)).mul P1 (by decide)).nn ((own_fpu (own_bn0 40) (by decide)).mul P0 (by decide)).nn) eH142 (by rw [hml]; rfl) (argsL := [(.int (1 : Int32)), (.double v14), (.ref b15), (.ref b16), (.ref b17), (.ref b18)]) rfl (lenOf pd_5 rfl) rfl at_233 (pc' := 236) rfl (by decide) (W := 1) (Nat.le_of_eq rfl) (by decide) (by decide) (by decide) (fun T144 h144 Lc144 v144r X144 eH144 hQ144 => ?_)
          obtain ⟨rfl, Nq144, rfl⟩ := hQ144
          have N144 := Fr.app N142 Nq144
          dsimp only [Option.toList, List.cons_append, List.nil_append]
          generalize q_r145 : (if dle (FP.dmul (if 0 < n134 then (FP.ddiv v133 (FP.i2d n134)) else (4607182418800017408 : UInt64)) (FP.dsub (4607182418800017408 : UInt64) v14)) (FP.dmul (if 0 < (0 : Int32) then (FP.ddiv (0 : UInt64) (FP.i2d (0 : Int32))) else (4607182418800017408 : UInt64)) v14) then (1 : Int32) else (0 : Int32)) = r145
          have hk146 : r143 = r145 := q_r143.symm.trans q_r145
          refine own_icF X144 hx hby at_236 (own_ic_ne_p hk146) (pc' := 239) rfl ?_
          refine own_iconst X144 hx hby (v := (1 : Int32)) (by decide) at_239 (pc' := 240) rfl ?_
          refine own_goto X144 hx hby at_240 (by decide) (pc' := 244) (by decide) ?_
          exact own_retZ X144 hx hby Bd.notSynchronized Bd.returns (Or.inr rfl) at_244 (by decide) (by decide) eH144 ⟨rfl, N144⟩
  · refine own_aload X20 hx hby rfl rfl at_125 (pc' := 127) rfl ?_
    rcases own_ite01 q_w2 with rfl | rfl
    · refine own_iload X20 hx hby rfl at_127 (pc' := 129) rfl ?_
      refine own_iload X20 hx hby rfl at_129 (pc' := 131) rfl ?_
      refine own_dload X20 hx hby rfl at_131 (pc' := 133) rfl ?_
      refine own_dload X20 hx hby rfl at_133 (pc' := 135) rfl ?_
      refine own_virtual X20 hx hby hZ (y := (⟨"com/example/bidfold/bidfold/Branching", "learn", "(IZDD)V"⟩ : MethodName)) (y' := (⟨"com/example/bidfold/bidfold/Branching", "learn", "(IZDD)V"⟩ : MethodName)) (C := "com/example/bidfold/bidfold/Branching") (rest := []) hown (hw _ (List.mem_of_getElem? (i := 31) rfl)) (hw _ (List.mem_of_getElem? (i := 32) rfl)) (notFace_of_selects (args := #[]) (mvT hZ (hw _ (List.mem_of_getElem? (i := 34) rfl)))) (hw _ (List.mem_of_getElem? (i := 34) rfl)) (hw _ (List.mem_of_getElem? (i := 33) rfl)) (hw _ (List.mem_of_getElem? (i := 35) rfl)) (hw _ (List.mem_of_getElem? (i := 10) rfl)) (by decide) (rm310 l Z a0 hw [] b19 v5 v6 b4_20 b6_20 (0 : UInt64) (0 : UInt64) (0 : Int32) (0 : Int32) h20 n0 Z0 F_b19_downFalls F_b19_downCounts V_b4_20 V_b6_20 (fun h1 h2 => (own_ld D_v5 D_v6 (own_fr _) (own_bn0 40) (by decide) h1 h2).1) (fun h1 h2 => (own_ld D_v5 D_v6 (own_fr _) (own_bn0 40) (by decide) h1 h2).2.1) g_b4_20 ne_b19_b4_20 (Ne.symm ne_b4_20_b6_20) g_b6_20 ne_b19_b6_20) eH20 (by rw [hml]; rfl) (a := b19) E_b19 (argsL := [(.int (1 : Int32)), (.int (0 : Int32)), (.double v5), (.double v6)]) rfl (lenOf pd_2 rfl) rfl at_135 (pc' := 138) rfl (by decide) (W := 0) (Nat.le_of_eq rfl) (by decide) (by decide) (by decide) (fun T147 h147 Lc147 v147r X147 eH147 hQ147 => ?_)
      obtain ⟨rfl, Nq147, Kq147, gq147_0, gq147_1⟩ := hQ147
      have N147 := Fr.app N20 Nq147
      replace E_b15 := E_b15.keep Kq147
      replace V_b15 := V_b15.keep Kq147 (ninS ne_b15_b4_20 (ninS ne_b15_b6_20 nin0))
      replace E_b16 := E_b16.keep Kq147
      replace V_b16 := V_b16.keep Kq147 (ninS ne_b16_b4_20 (ninS ne_b16_b6_20 nin0))
      replace E_b17 := E_b17.keep Kq147
      replace V_b17 := V_b17.keep Kq147 (ninS ne_b17_b4_20 (ninS ne_b17_b6_20 nin0))
      replace E_b18 := E_b18.keep Kq147
      replace V_b18 := V_b18.keep Kq147 (ninS ne_b18_b4_20 (ninS ne_b18_b6_20 nin0))
      replace E_b19 := E_b19.keep Kq147
      replace F_b19_downFalls := F_b19_downFalls.keep Kq147 (ninS ne_b19_b4_20 (ninS ne_b19_b6_20 nin0))
      replace F_b19_downCounts := F_b19_downCounts.keep Kq147 (ninS ne_b19_b4_20 (ninS ne_b19_b6_20 nin0))
      replace F_b19_upFalls := F_b19_upFalls.keep Kq147 (ninS ne_b19_b4_20 (ninS ne_b19_b6_20 nin0))
      replace F_b19_upCounts := F_b19_upCounts.keep Kq147 (ninS ne_b19_b4_20 (ninS ne_b19_b6_20 nin0))
      replace E_b4_20 := E_b4_20.keep Kq147
      replace E_b6_20 := E_b6_20.keep Kq147
      replace E_b8_20 := E_b8_20.keep Kq147
      replace V_b8_20 := V_b8_20.keep Kq147 (ninS (Ne.symm ne_b4_20_b8_20) (ninS (Ne.symm ne_b6_20_b8_20) nin0))
      replace E_b10_20 := E_b10_20.keep Kq147
      replace V_b10_20 := V_b10_20.keep Kq147 (ninS (Ne.symm ne_b4_20_b10_20) (ninS (Ne.symm ne_b6_20_b10_20) nin0))
      obtain ⟨v148, q_v148⟩ : ∃ z : UInt64, (if dle v5 (4517329193108106637 : UInt64) then (0 : UInt64) else (if dge v5 (4607182409792818153 : UInt64) then (0 : UInt64) else (FP.dadd (0 : UInt64) (FP.ddiv v6 v5)))) = z := ⟨_, rfl⟩
      have V_b4_20 : Ary tr Z h147 b4_20 .double [(.double (0 : UInt64)), (.double v148)] := by rw [← q_v148]; exact gq147_0
      obtain ⟨n149, q_n149⟩ : ∃ z : Int32, (if dle v5 (4517329193108106637 : UInt64) then (0 : Int32) else (if dge v5 (4607182409792818153 : UInt64) then (0 : Int32) else ((0 : Int32) + (1 : Int32)))) = z := ⟨_, rfl⟩
      have V_b6_20 : Ary tr Z h147 b6_20 .int [(.int (0 : Int32)), (.int n149)] := by rw [← q_n149]; exact gq147_1
      replace Z0 := Nat.le_trans Z0 Kq147.1
      have B_v148 : Bn v148 41 := q_v148 ▸ own_tr (own_bn0 40) (fun h1 h2 => (own_ld D_v5 D_v6 (own_fr _) (own_bn0 40) (by decide) h1 h2).2.2)
      rcases own_bit q_n7 with rfl | rfl
      · refine own_aload X147 hx hby rfl rfl at_138 (pc' := 140) rfl ?_
        rcases own_ite01 q_w8 with rfl | rfl
        · refine own_iload X147 hx hby rfl at_140 (pc' := 142) rfl ?_
          refine own_iload X147 hx hby rfl at_142 (pc' := 144) rfl ?_
          refine own_dload X147 hx hby rfl at_144 (pc' := 146) rfl ?_
          refine own_dload X147 hx hby rfl at_146 (pc' := 148) rfl ?_
          refine own_virtual X147 hx hby hZ (y := (⟨"com/example/bidfold/bidfold/Branching", "learn", "(IZDD)V"⟩ : MethodName)) (y' := (⟨"com/example/bidfold/bidfold/Branching", "learn", "(IZDD)V"⟩ : MethodName)) (C := "com/example/bidfold/bidfold/Branching") (rest := []) hown (hw _ (List.mem_of_getElem? (i := 31) rfl)) (hw _ (List.mem_of_getElem? (i := 32) rfl)) (notFace_of_selects (args := #[]) (mvT hZ (hw _ (List.mem_of_getElem? (i := 34) rfl)))) (hw _ (List.mem_of_getElem? (i := 34) rfl)) (hw _ (List.mem_of_getElem? (i := 33) rfl)) (hw _ (List.mem_of_getElem? (i := 35) rfl)) (hw _ (List.mem_of_getElem? (i := 10) rfl)) (by decide) (rm300 l Z a0 hw [] b19 v11 v12 b4_20 b6_20 (0 : UInt64) v148 (0 : Int32) n149 h147 n0 Z0 F_b19_downFalls F_b19_downCounts V_b4_20 V_b6_20 (fun h1 h2 => (own_ld D_v11 D_v12 (own_fr _) (own_bn0 40) (by decide) h1 h2).1) (fun h1 h2 => (own_ld D_v11 D_v12 (own_fr _) (own_bn0 40) (by decide) h1 h2).2.1) g_b4_20 ne_b19_b4_20 (Ne.symm ne_b4_20_b6_20) g_b6_20 ne_b19_b6_20) eH147 (by rw [hml]; rfl) (a := b19) E_b19 (argsL := [(.int (0 : Int32)), (.int (0 : Int32)), (.double v11), (.double v12)]) rfl (lenOf pd_2 rfl) rfl at_148 (pc' := 151) rfl (by decide) (W := 0) (Nat.le_of_eq rfl) (by decide) (by decide) (by decide) (fun T150 h150 Lc150 v150r X150 eH150 hQ150 => ?_)
          obtain ⟨rfl, Nq150, Kq150, gq150_0, gq150_1⟩ := hQ150
          have N150 := Fr.app N147 Nq150
          replace E_b15 := E_b15.keep Kq150
          replace V_b15 := V_b15.keep Kq150 (ninS ne_b15_b4_20 (ninS ne_b15_b6_20 nin0))
          replace E_b16 := E_b16.keep Kq150
          replace V_b16 := V_b16.keep Kq150 (ninS ne_b16_b4_20 (ninS ne_b16_b6_20 nin0))
          replace E_b17 := E_b17.keep Kq150
          replace V_b17 := V_b17.keep Kq150 (ninS ne_b17_b4_20 (ninS ne_b17_b6_20 nin0))
          replace E_b18 := E_b18.keep Kq150
          replace V_b18 := V_b18.keep Kq150 (ninS ne_b18_b4_20 (ninS ne_b18_b6_20 nin0))
          replace E_b19 := E_b19.keep Kq150
          replace F_b19_downFalls := F_b19_downFalls.keep Kq150 (ninS ne_b19_b4_20 (ninS ne_b19_b6_20 nin0))
          replace F_b19_downCounts := F_b19_downCounts.keep Kq150 (ninS ne_b19_b4_20 (ninS ne_b19_b6_20 nin0))
          replace F_b19_upFalls := F_b19_upFalls.keep Kq150 (ninS ne_b19_b4_20 (ninS ne_b19_b6_20 nin0))
          replace F_b19_upCounts := F_b19_upCounts.keep Kq150 (ninS ne_b19_b4_20 (ninS ne_b19_b6_20 nin0))
          replace E_b4_20 := E_b4_20.keep Kq150
          replace E_b6_20 := E_b6_20.keep Kq150
          replace E_b8_20 := E_b8_20.keep Kq150
          replace V_b8_20 := V_b8_20.keep Kq150 (ninS (Ne.symm ne_b4_20_b8_20) (ninS (Ne.symm ne_b6_20_b8_20) nin0))
          replace E_b10_20 := E_b10_20.keep Kq150
          replace V_b10_20 := V_b10_20.keep Kq150 (ninS (Ne.symm ne_b4_20_b10_20) (ninS (Ne.symm ne_b6_20_b10_20) nin0))
          obtain ⟨v151, q_v151⟩ : ∃ z : UInt64, (if dle v11 (4517329193108106637 : UInt64) then (0 : UInt64) else (if dge v11 (4607182409792818153 : UInt64) then (0 : UInt64) else (FP.dadd (0 : UInt64) (FP.ddiv v12 v11)))) = z := ⟨_, rfl⟩
          have V_b4_20 : Ary tr Z h150 b4_20 .double [(.double v151), (.double v148)] := by rw [← q_v151]; exact gq150_0
          obtain ⟨n152, q_n152⟩ : ∃ z : Int32, (if dle v11 (4517329193108106637 : UInt64) then (0 : Int32) else (if dge v11 (4607182409792818153 : UInt64) then (0 : Int32) else ((0 : Int32) + (1 : Int32)))) = z := ⟨_, rfl⟩
          have V_b6_20 : Ary tr Z h150 b6_20 .int [(.int n152), (.int n149)] := by rw [← q_n152]; exact gq150_1
          replace Z0 := Nat.le_trans Z0 Kq150.1
          have B_v151 : Bn v151 41 := q_v151 ▸ own_tr (own_bn0 40) (fun h1 h2 => (own_ld D_v11 D_v12 (own_fr _) (own_bn0 40) (by decide) h1 h2).2.2)
          refine own_iload X150 hx hby rfl at_151 (pc' := 153) rfl ?_
          refine own_iload X150 hx hby rfl at_153 (pc' := 155) rfl ?_
          refine own_dload X150 hx hby rfl at_155 (pc' := 157) rfl ?_
          refine own_dload X150 hx hby rfl at_157 (pc' := 159) rfl ?_
          refine own_aload X150 hx hby rfl rfl at_159 (pc' := 161) rfl ?_
          refine own_aload X150 hx hby rfl rfl at_161 (pc' := 163) rfl ?_
          refine own_aload X150 hx hby rfl rfl at_163 (pc' := 165) rfl ?_
          refine own_aload X150 hx hby rfl rfl at_165 (pc' := 167) rfl ?_
          refine own_static X150 hx hby hZ (y := (⟨"com/example/bidfold/bidfold/BranchingLearnPinLaw", "model", "(IZDD[D[I[D[I)V"⟩ : MethodName)) (rest := []) hown (hw _ (List.mem_of_getElem? (i := 37) rfl)) (hw _ (List.mem_of_getElem? (i := 38) rfl)) (hw _ (List.mem_of_getElem? (i := 40) rfl)) (hw _ (List.mem_of_getElem? (i := 39) rfl)) (by decide) (rm410 l Z a0 hw [] v5 v6 b15 b16 b17 b18 (0 : UInt64) (0 : UInt64) (0 : Int32) (0 : Int32) h150 n0 Z0 V_b17 V_b18 (fun h1 h2 => (own_ld D_v5 D_v6 (own_fr _) (own_bn0 40) (by decide) h1 h2).1) (fun h1 h2 => (own_ld D_v5 D_v6 (own_fr _) (own_bn0 40) (by decide) h1 h2).2.1) g_b17 (Ne.symm ne_b17_b18) g_b18) eH150 (by rw [hml]; rfl) (argsL := [(.int (1 : Int32)), (.int (0 : Int32)), (.double v5), (.double v6), (.ref b15), (.ref b16), (.ref b17), (.ref b18)]) rfl (lenOf pd_3 rfl) rfl at_167 (pc' := 170) rfl (by decide) (W := 0) (Nat.le_of_eq rfl) (by decide) (by decide) (by decide) (fun T153 h153 Lc153 v153r X153 eH153 hQ153 => ?_)
          obtain ⟨rfl, Nq153, Kq153, gq153_0, gq153_1⟩ := hQ153
          have N153 := Fr.app N150 Nq153
          replace E_b15 := E_b15.keep Kq153
          replace V_b15 := V_b15.keep Kq153 (ninS ne_b15_b17 (ninS ne_b15_b18 nin0))
          replace E_b16 := E_b16.keep Kq153
          replace V_b16 := V_b16.keep Kq153 (ninS ne_b16_b17 (ninS ne_b16_b18 nin0))
          replace E_b17 := E_b17.keep Kq153
          replace E_b18 := E_b18.keep Kq153
          replace E_b19 := E_b19.keep Kq153
          replace F_b19_downFalls := F_b19_downFalls.keep Kq153 (ninS (Ne.symm ne_b17_b19) (ninS (Ne.symm ne_b18_b19) nin0))
          replace F_b19_downCounts := F_b19_downCounts.keep Kq153 (ninS (Ne.symm ne_b17_b19) (ninS (Ne.symm ne_b18_b19) nin0))
          replace F_b19_upFalls := F_b19_upFalls.keep Kq153 (ninS (Ne.symm ne_b17_b19) (ninS (Ne.symm ne_b18_b19) nin0))
          replace F_b19_upCounts := F_b19_upCounts.keep Kq153 (ninS (Ne.symm ne_b17_b19) (ninS (Ne.symm ne_b18_b19) nin0))
          replace E_b4_20 := E_b4_20.keep Kq153
          replace V_b4_20 := V_b4_20.keep Kq153 (ninS (Ne.symm ne_b17_b4_20) (ninS (Ne.symm ne_b18_b4_20) nin0))
          replace E_b6_20 := E_b6_20.keep Kq153
          replace V_b6_20 := V_b6_20.keep Kq153 (ninS (Ne.symm ne_b17_b6_20) (ninS (Ne.symm ne_b18_b6_20) nin0))
          replace E_b8_20 := E_b8_20.keep Kq153
          replace V_b8_20 := V_b8_20.keep Kq153 (ninS (Ne.symm ne_b17_b8_20) (ninS (Ne.symm ne_b18_b8_20) nin0))
          replace E_b10_20 := E_b10_20.keep Kq153
          replace V_b10_20 := V_b10_20.keep Kq153 (ninS (Ne.symm ne_b17_b10_20) (ninS (Ne.symm ne_b18_b10_20) nin0))
          have V_b17 : Ary tr Z h153 b17 .double [(.double (0 : UInt64)), (.double v148)] := by rw [← q_v148]; exact gq153_0
          have V_b18 : Ary tr Z h153 b18 .int [(.int (0 : Int32)), (.int n149)] := by rw [← q_n149]; exact gq153_1
          replace Z0 := Nat.le_trans Z0 Kq153.1
          refine own_iload X153 hx hby rfl at_170 (pc' := 172) rfl ?_
          refine own_iload X153 hx hby rfl at_172 (pc' := 174) rfl ?_
          refine own_dload X153 hx hby rfl at_174 (pc' := 176) rfl ?_
          refine own_dload X153 hx hby rfl at_176 (pc' := 178) rfl ?_
          refine own_aload X153 hx hby rfl rfl at_178 (pc' := 180) rfl ?_
          refine own_aload X153 hx hby rfl rfl at_180 (pc' := 182) rfl ?_
          refine own_aload X153 hx hby rfl rfl at_182 (pc' := 184) rfl ?_
          refine own_aload X153 hx hby rfl rfl at_184 (pc' := 186) rfl ?_
          refine own_static X153 hx hby hZ (y := (⟨"com/example/bidfold/bidfold/BranchingLearnPinLaw", "model", "(IZDD[D[I[D[I)V"⟩ : MethodName)) (rest := []) hown (hw _ (List.mem_of_getElem? (i := 37) rfl)) (hw _ (List.mem_of_getElem? (i := 38) rfl)) (hw _ (List.mem_of_getElem? (i := 40) rfl)) (hw _ (List.mem_of_getElem? (i := 39) rfl)) (by decide) (rm400 l Z a0 hw [] v11 v12 b15 b16 b17 b18 (0 : UInt64) v148 (0 : Int32) n149 h153 n0 Z0 V_b17 V_b18 (fun h1 h2 => (own_ld D_v11 D_v12 (own_fr _) (own_bn0 40) (by decide) h1 h2).1) (fun h1 h2 => (own_ld D_v11 D_v12 (own_fr _) (own_bn0 40) (by decide) h1 h2).2.1) g_b17 (Ne.symm ne_b17_b18) g_b18) eH153 (by rw [hml]; rfl) (argsL := [(.int (0 : Int32)), (.int (0 : Int32)), (.double v11), (.double v12), (.ref b15), (.ref b16), (.ref b17), (.ref b18)]) rfl (lenOf pd_3 rfl) rfl at_186 (pc' := 189) rfl (by decide) (W := 0) (Nat.le_of_eq rfl) (by decide) (by decide) (by decide) (fun T154 h154 Lc154 v154r X154 eH154 hQ154 => ?_)
          obtain ⟨rfl, Nq154, Kq154, gq154_0, gq154_1⟩ := hQ154
          have N154 := Fr.app N153 Nq154
          replace E_b15 := E_b15.keep Kq154
          replace V_b15 := V_b15.keep Kq154 (ninS ne_b15_b17 (ninS ne_b15_b18 nin0))
          replace E_b16 := E_b16.keep Kq154
          replace V_b16 := V_b16.keep Kq154 (ninS ne_b16_b17 (ninS ne_b16_b18 nin0))
          replace E_b17 := E_b17.keep Kq154
          replace E_b18 := E_b18.keep Kq154
          replace E_b19 := E_b19.keep Kq154
          replace F_b19_downFalls := F_b19_downFalls.keep Kq154 (ninS (Ne.symm ne_b17_b19) (ninS (Ne.symm ne_b18_b19) nin0))
          replace F_b19_downCounts := F_b19_downCounts.keep Kq154 (ninS (Ne.symm ne_b17_b19) (ninS (Ne.symm ne_b18_b19) nin0))
          replace F_b19_upFalls := F_b19_upFalls.keep Kq154 (ninS (Ne.symm ne_b17_b19) (ninS (Ne.symm ne_b18_b19) nin0))
          replace F_b19_upCounts := F_b19_upCounts.keep Kq154 (ninS (Ne.symm ne_b17_b19) (ninS (Ne.symm ne_b18_b19) nin0))
          replace E_b4_20 := E_b4_20.keep Kq154
          replace V_b4_20 := V_b4_20.keep Kq154 (ninS (Ne.symm ne_b17_b4_20) (ninS (Ne.symm ne_b18_b4_20) nin0))
          replace E_b6_20 := E_b6_20.keep Kq154
          replace V_b6_20 := V_b6_20.keep Kq154 (ninS (Ne.symm ne_b17_b6_20) (ninS (Ne.symm ne_b18_b6_20) nin0))
          replace E_b8_20 := E_b8_20.keep Kq154
          replace V_b8_20 := V_b8_20.keep Kq154 (ninS (Ne.symm ne_b17_b8_20) (ninS (Ne.symm ne_b18_b8_20) nin0))
          replace E_b10_20 := E_b10_20.keep Kq154
          replace V_b10_20 := V_b10_20.keep Kq154 (ninS (Ne.symm ne_b17_b10_20) (ninS (Ne.symm ne_b18_b10_20) nin0))
          have V_b17 : Ary tr Z h154 b17 .double [(.double v151), (.double v148)] := by rw [← q_v151]; exact gq154_0
          have V_b18 : Ary tr Z h154 b18 .int [(.int n152), (.int n149)] := by rw [← q_n152]; exact gq154_1
          replace Z0 := Nat.le_trans Z0 Kq154.1
          refine own_aload X154 hx hby rfl rfl at_189 (pc' := 191) rfl ?_
          refine own_iconst X154 hx hby (v := (0 : Int32)) (by decide) at_191 (pc' := 192) rfl ?_
          refine own_dload X154 hx hby rfl at_192 (pc' := 194) rfl ?_
          refine own_virtual X154 hx hby hZ (y := (⟨"com/example/bidfold/bidfold/Branching", "leansIn", "(ID)Z"⟩ : MethodName)) (y' := (⟨"com/example/bidfold/bidfold/Branching", "leansIn", "(ID)Z"⟩ : MethodName)) (C := "com/example/bidfold/bidfold/Branching") (rest := []) hown (hw _ (List.mem_of_getElem? (i := 42) rfl)) (hw _ (List.mem_of_getElem? (i := 43) rfl)) (notFace_of_selects (args := #[]) (mvT hZ (hw _ (List.mem_of_getElem? (i := 45) rfl)))) (hw _ (List.mem_of_getElem? (i := 45) rfl)) (hw _ (List.mem_of_getElem? (i := 44) rfl)) (hw _ (List.mem_of_getElem? (i := 46) rfl)) (hw _ (List.mem_of_getElem? (i := 10) rfl)) (by decide) (rm50 l Z a0 hw [] b19 v14 b8_20 b10_20 (0 : UInt64) (0 : UInt64) (0 : Int32) (0 : Int32) b4_20 b6_20 v151 v148 n152 n149 h154 n0 Z0 F_b19_upFalls F_b19_upCounts V_b8_20 V_b10_20 F_b19_downFalls F_b19_downCounts V_b4_20 V_b6_20 (fun h => (own_fq (own_bn0 40) (by decide) h).nn) P1.nn ((own_fpu (own_bn0 40) (by decide)).mul P1 (by decide)).nn (fun h => (own_fq B_v151 (by decide) h).nn) ((own_fpu B_v151 (by decide)).mul P0 (by decide)).nn) eH154 (by rw [hml]; rfl) (a := b19) E_b19 (argsL := [(.int (0 : Int32)), (.double v14)]) rfl (lenOf pd_4 rfl) rfl at_194 (pc' := 197) rfl (by decide) (W := 0) (Nat.le_of_eq rfl) (by decide) (by decide) (by decide) (fun T155 h155 Lc155 v155r X155 eH155 hQ155 => ?_)
          obtain ⟨rfl, Nq155, rfl⟩ := hQ155
          have N155 := Fr.app N154 Nq155
          dsimp only [Option.toList, List.cons_append, List.nil_append]
          generalize q_r156 : (if dle (FP.dmul (if 0 < (0 : Int32) then (FP.ddiv (0 : UInt64) (FP.i2d (0 : Int32))) else (4607182418800017408 : UInt64)) (FP.dsub (4607182418800017408 : UInt64) v14)) (FP.dmul (if 0 < n152 then (FP.ddiv v151 (FP.i2d n152)) else (4607182418800017408 : UInt64)) v14) then (1 : Int32) else (0 : Int32)) = r156
          refine own_iconst X155 hx hby (v := (0 : Int32)) (by decide) at_197 (pc' := 198) rfl ?_
          refine own_dload X155 hx hby rfl at_198 (pc' := 200) rfl ?_
          refine own_aload X155 hx hby rfl rfl at_200 (pc' := 202) rfl ?_
          refine own_aload X155 hx hby rfl rfl at_202 (pc' := 204) rfl ?_
          refine own_aload X155 hx hby rfl rfl at_204 (pc' := 206) rfl ?_
          refine own_aload X155 hx hby rfl rfl at_206 (pc' := 208) rfl ?_
          refine own_static X155 hx hby hZ (y := (⟨"com/example/bidfold/bidfold/BranchingLearnPinLaw", "expect", "(ID[D[I[D[I)Z"⟩ : MethodName)) (rest := [(.int r156)]) hown (hw _ (List.mem_of_getElem? (i := 50) rfl)) (hw _ (List.mem_of_getElem? (i := 51) rfl)) (hw _ (List.mem_of_getElem? (i := 52) rfl)) (hw _ (List.mem_of_getElem? (i := 39) rfl)) (by decide) (rm70 l Z a0 hw [] v14 b15 b16 b17 b18 (0 : UInt64) (0 : UInt64) (0 : Int32) (0 : Int32) v151 v148 n152 n149 h154 n0 Z0 V_b15 V_b16 V_b17 V_b18 (fun h => (own_fq (own_bn0 40) (by decide) h).nn) (fun h => (own_fq B_v151 (by decide) h).nn) P1.nn ((own_fpu (own_bn0 40) (by decide)).mul P1 (by decide)).nn ((own_fpu B_v151 (by decide)).mul P0 (by decide)).nn) eH155 (by rw [hml]; rfl) (argsL := [(.int (0 : Int32)), (.double v14), (.ref b15), (.ref b16), (.ref b17), (.ref b18)]) rfl (lenOf pd_5 rfl) rfl at_208 (pc' := 211) rfl (by decide) (W := 1) (Nat.le_of_eq rfl) (by decide) (by decide) (by decide) (fun T157 h157 Lc157 v157r X157 eH157 hQ157 => ?_)
          obtain ⟨rfl, Nq157, rfl⟩ := hQ157
          have N157 := Fr.app N155 Nq157
          dsimp only [Option.toList, List.cons_append, List.nil_append]
          generalize q_r158 : (if dle (FP.dmul (if 0 < (0 : Int32) then (FP.ddiv (0 : UInt64) (FP.i2d (0 : Int32))) else (4607182418800017408 : UInt64)) (FP.dsub (4607182418800017408 : UInt64) v14)) (FP.dmul (if 0 < n152 then (FP.ddiv v151 (FP.i2d n152)) else (4607182418800017408 : UInt64)) v14) then (1 : Int32) else (0 : Int32)) = r158
          have hk159 : r156 = r158 := q_r156.symm.trans q_r158
          refine own_icF X157 hx hby at_211 (own_ic_ne_p hk159) (pc' := 214) rfl ?_
          refine own_aload X157 hx hby rfl rfl at_214 (pc' := 216) rfl ?_
          refine own_iconst X157 hx hby (v := (1 : Int32)) (by decide) at_216 (pc' := 217) rfl ?_
          refine own_dload X157 hx hby rfl at_217 (pc' := 219) rfl ?_
          refine own_virtual X157 hx hby hZ (y := (⟨"com/example/bidfold/bidfold/Branching", "leansIn", "(ID)Z"⟩ : MethodName)) (y' := (⟨"com/example/bidfold/bidfold/Branching", "leansIn", "(ID)Z"⟩ : MethodName)) (C := "com/example/bidfold/bidfold/Branching") (rest := []) hown (hw _ (List.mem_of_getElem? (i := 42) rfl)) (hw _ (List.mem_of_getElem? (i := 43) rfl)) (notFace_of_selects (args := #[]) (mvT hZ (hw _ (List.mem_of_getElem? (i := 45) rfl)))) (hw _ (List.mem_of_getElem? (i := 45) rfl)) (hw _ (List.mem_of_getElem? (i := 44) rfl)) (hw _ (List.mem_of_getElem? (i := 46) rfl)) (hw _ (List.mem_of_getElem? (i := 10) rfl)) (by decide) (rm51 l Z a0 hw [] b19 v14 b8_20 b10_20 (0 : UInt64) (0 : UInt64) (0 : Int32) (0 : Int32) b4_20 b6_20 v151 v148 n152 n149 h154 n0 Z0 F_b19_upFalls F_b19_upCounts V_b8_20 V_b10_20 F_b19_downFalls F_b19_downCounts V_b4_20 V_b6_20 (fun h => (own_fq (own_bn0 40) (by decide) h).nn) P1.nn ((own_fpu (own_bn0 40) (by decide)).mul P1 (by decide)).nn (fun h => (own_fq B_v148 (by decide) h).nn) ((own_fpu B_v148 (by decide)).mul P0 (by decide)).nn) eH157 (by rw [hml]; rfl) (a := b19) E_b19 (argsL := [(.int (1 : Int32)), (.double v14)]) rfl (lenOf pd_4 rfl) rfl at_219 (pc' := 222) rfl (by decide) (W := 0) (Nat.le_of_eq rfl) (by decide) (by decide) (by decide) (fun T160 h160 Lc160 v160r X160 eH160 hQ160 => ?_)
          obtain ⟨rfl, Nq160, rfl⟩ := hQ160
          have N160 := Fr.app N157 Nq160
          dsimp only [Option.toList, List.cons_append, List.nil_append]
          generalize q_r161 : (if dle (FP.dmul (if 0 < (0 : Int32) then (FP.ddiv (0 : UInt64) (FP.i2d (0 : Int32))) else (4607182418800017408 : UInt64)) (FP.dsub (4607182418800017408 : UInt64) v14)) (FP.dmul (if 0 < n149 then (FP.ddiv v148 (FP.i2d n149)) else (4607182418800017408 : UInt64)) v14) then (1 : Int32) else (0 : Int32)) = r161
          refine own_iconst X160 hx hby (v := (1 : Int32)) (by decide) at_222 (pc' := 223) rfl ?_
          refine own_dload X160 hx hby rfl at_223 (pc' := 225) rfl ?_
          refine own_aload X160 hx hby rfl rfl at_225 (pc' := 227) rfl ?_
          refine own_aload X160 hx hby rfl rfl at_227 (pc' := 229) rfl ?_
          refine own_aload X160 hx hby rfl rfl at_229 (pc' := 231) rfl ?_
          refine own_aload X160 hx hby rfl rfl at_231 (pc' := 233) rfl ?_
          refine own_static X160 hx hby hZ (y := (⟨"com/example/bidfold/bidfold/BranchingLearnPinLaw", "expect", "(ID[D[I[D[I)Z"⟩ : MethodName)) (rest := [(.int r161)]) hown (hw _ (List.mem_of_getElem? (i := 50) rfl)) (hw _ (List.mem_of_getElem? (i := 51) rfl)) (hw _ (List.mem_of_getElem? (i := 52) rfl)) (hw _ (List.mem_of_getElem? (i := 39) rfl)) (by decide) (rm71 l Z a0 hw [] v14 b15 b16 b17 b18 (0 : UInt64) (0 : UInt64) (0 : Int32) (0 : Int32) v151 v148 n152 n149 h154 n0 Z0 V_b15 V_b16 V_b17 V_b18 (fun h => (own_fq (own_bn0 40) (by decide) h).nn) (fun h => (own_fq B_v148 (by decide) h).nn) P1.nn ((own_fpu (own_bn0 40) (by decide)).mul P1 (by decide)).nn ((own_fpu B_v148 (by decide)).mul P0 (by decide)).nn) eH160 (by rw [hml]; rfl) (argsL := [(.int (1 : Int32)), (.double v14), (.ref b15), (.ref b16), (.ref b17), (.ref b18)]) rfl (lenOf pd_5 rfl) rfl at_233 (pc' := 236) rfl (by decide) (W := 1) (Nat.le_of_eq rfl) (by decide) (by decide) (by decide) (fun T162 h162 Lc162 v162r X162 eH162 hQ162 => ?_)
          obtain ⟨rfl, Nq162, rfl⟩ := hQ162
          have N162 := Fr.app N160 Nq162
          dsimp only [Option.toList, List.cons_append, List.nil_append]
          generalize q_r163 : (if dle (FP.dmul (if 0 < (0 : Int32) then (FP.ddiv (0 : UInt64) (FP.i2d (0 : Int32))) else (4607182418800017408 : UInt64)) (FP.dsub (4607182418800017408 : UInt64) v14)) (FP.dmul (if 0 < n149 then (FP.ddiv v148 (FP.i2d n149)) else (4607182418800017408 : UInt64)) v14) then (1 : Int32) else (0 : Int32)) = r163
          have hk164 : r161 = r163 := q_r161.symm.trans q_r163
          refine own_icF X162 hx hby at_236 (own_ic_ne_p hk164) (pc' := 239) rfl ?_
          refine own_iconst X162 hx hby (v := (1 : Int32)) (by decide) at_239 (pc' := 240) rfl ?_
          refine own_goto X162 hx hby at_240 (by decide) (pc' := 244) (by decide) ?_
          exact own_retZ X162 hx hby Bd.notSynchronized Bd.returns (Or.inr rfl) at_244 (by decide) (by decide) eH162 ⟨rfl, N162⟩
        · refine own_iload X147 hx hby rfl at_140 (pc' := 142) rfl ?_
          refine own_iload X147 hx hby rfl at_142 (pc' := 144) rfl ?_
          refine own_dload X147 hx hby rfl at_144 (pc' := 146) rfl ?_
          refine own_dload X147 hx hby rfl at_146 (pc' := 148) rfl ?_
          refine own_virtual X147 hx hby hZ (y := (⟨"com/example/bidfold/bidfold/Branching", "learn", "(IZDD)V"⟩ : MethodName)) (y' := (⟨"com/example/bidfold/bidfold/Branching", "learn", "(IZDD)V"⟩ : MethodName)) (C := "com/example/bidfold/bidfold/Branching") (rest := []) hown (hw _ (List.mem_of_getElem? (i := 31) rfl)) (hw _ (List.mem_of_getElem? (i := 32) rfl)) (notFace_of_selects (args := #[]) (mvT hZ (hw _ (List.mem_of_getElem? (i := 34) rfl)))) (hw _ (List.mem_of_getElem? (i := 34) rfl)) (hw _ (List.mem_of_getElem? (i := 33) rfl)) (hw _ (List.mem_of_getElem? (i := 35) rfl)) (hw _ (List.mem_of_getElem? (i := 10) rfl)) (by decide) (rm301 l Z a0 hw [] b19 v11 v12 b8_20 b10_20 (0 : UInt64) (0 : UInt64) (0 : Int32) (0 : Int32) h147 n0 Z0 F_b19_upFalls F_b19_upCounts V_b8_20 V_b10_20 (fun h1 h2 => (own_lu D_v11 D_v12 (own_fr _) (own_bn0 40) (by decide) h1 h2).1) (fun h1 h2 => (own_lu D_v11 D_v12 (own_fr _) (own_bn0 40) (by decide) h1 h2).2.1) (fun h1 h2 => (own_lu D_v11 D_v12 (own_fr _) (own_bn0 40) (by decide) h1 h2).2.2.1) g_b8_20 ne_b19_b8_20 (Ne.symm ne_b8_20_b10_20) g_b10_20 ne_b19_b10_20) eH147 (by rw [hml]; rfl) (a := b19) E_b19 (argsL := [(.int (0 : Int32)), (.int (1 : Int32)), (.double v11), (.double v12)]) rfl (lenOf pd_2 rfl) rfl at_148 (pc' := 151) rfl (by decide) (W := 0) (Nat.le_of_eq rfl) (by decide) (by decide) (by decide) (fun T165 h165 Lc165 v165r X165 eH165 hQ165 => ?_)
          obtain ⟨rfl, Nq165, Kq165, gq165_0, gq165_1⟩ := hQ165
          have N165 := Fr.app N147 Nq165
          replace E_b15 := E_b15.keep Kq165
          replace V_b15 := V_b15.keep Kq165 (ninS ne_b15_b8_20 (ninS ne_b15_b10_20 nin0))
          replace E_b16 := E_b16.keep Kq165
          replace V_b16 := V_b16.keep Kq165 (ninS ne_b16_b8_20 (ninS ne_b16_b10_20 nin0))
          replace E_b17 := E_b17.keep Kq165
          replace V_b17 := V_b17.keep Kq165 (ninS ne_b17_b8_20 (ninS ne_b17_b10_20 nin0))
          replace E_b18 := E_b18.keep Kq165
          replace V_b18 := V_b18.keep Kq165 (ninS ne_b18_b8_20 (ninS ne_b18_b10_20 nin0))
          replace E_b19 := E_b19.keep Kq165
          replace F_b19_downFalls := F_b19_downFalls.keep Kq165 (ninS ne_b19_b8_20 (ninS ne_b19_b10_20 nin0))
          replace F_b19_downCounts := F_b19_downCounts.keep Kq165 (ninS ne_b19_b8_20 (ninS ne_b19_b10_20 nin0))
          replace F_b19_upFalls := F_b19_upFalls.keep Kq165 (ninS ne_b19_b8_20 (ninS ne_b19_b10_20 nin0))
          replace F_b19_upCounts := F_b19_upCounts.keep Kq165 (ninS ne_b19_b8_20 (ninS ne_b19_b10_20 nin0))
          replace E_b4_20 := E_b4_20.keep Kq165
          replace V_b4_20 := V_b4_20.keep Kq165 (ninS ne_b4_20_b8_20 (ninS ne_b4_20_b10_20 nin0))
          replace E_b6_20 := E_b6_20.keep Kq165
          replace V_b6_20 := V_b6_20.keep Kq165 (ninS ne_b6_20_b8_20 (ninS ne_b6_20_b10_20 nin0))
          replace E_b8_20 := E_b8_20.keep Kq165
          replace E_b10_20 := E_b10_20.keep Kq165
          obtain ⟨v166, q_v166⟩ : ∃ z : UInt64, (if dle v11 (4517329193108106637 : UInt64) then (0 : UInt64) else (if dge v11 (4607182409792818153 : UInt64) then (0 : UInt64) else (FP.dadd (0 : UInt64) (FP.ddiv v12 (FP.dsub (4607182418800017408 : UInt64) v11))))) = z := ⟨_, rfl⟩
          have V_b8_20 : Ary tr Z h165 b8_20 .double [(.double v166), (.double (0 : UInt64))] := by rw [← q_v166]; exact gq165_0
          obtain ⟨n167, q_n167⟩ : ∃ z : Int32, (if dle v11 (4517329193108106637 : UInt64) then (0 : Int32) else (if dge v11 (4607182409792818153 : UInt64) then (0 : Int32) else ((0 : Int32) + (1 : Int32)))) = z := ⟨_, rfl⟩
          have V_b10_20 : Ary tr Z h165 b10_20 .int [(.int n167), (.int (0 : Int32))] := by rw [← q_n167]; exact gq165_1
          replace Z0 := Nat.le_trans Z0 Kq165.1
          have B_v166 : Bn v166 41 := q_v166 ▸ own_tr (own_bn0 40) (fun h1 h2 => (own_lu D_v11 D_v12 (own_fr _) (own_bn0 40) (by decide) h1 h2).2.2.2)
          refine own_iload X165 hx hby rfl at_151 (pc' := 153) rfl ?_
          refine own_iload X165 hx hby rfl at_153 (pc' := 155) rfl ?_
          refine own_dload X165 hx hby rfl at_155 (pc' := 157) rfl ?_
          refine own_dload X165 hx hby rfl at_157 (pc' := 159) rfl ?_
          refine own_aload X165 hx hby rfl rfl at_159 (pc' := 161) rfl ?_
          refine own_aload X165 hx hby rfl rfl at_161 (pc' := 163) rfl ?_
          refine own_aload X165 hx hby rfl rfl at_163 (pc' := 165) rfl ?_
          refine own_aload X165 hx hby rfl rfl at_165 (pc' := 167) rfl ?_
          refine own_static X165 hx hby hZ (y := (⟨"com/example/bidfold/bidfold/BranchingLearnPinLaw", "model", "(IZDD[D[I[D[I)V"⟩ : MethodName)) (rest := []) hown (hw _ (List.mem_of_getElem? (i := 37) rfl)) (hw _ (List.mem_of_getElem? (i := 38) rfl)) (hw _ (List.mem_of_getElem? (i := 40) rfl)) (hw _ (List.mem_of_getElem? (i := 39) rfl)) (by decide) (rm410 l Z a0 hw [] v5 v6 b15 b16 b17 b18 (0 : UInt64) (0 : UInt64) (0 : Int32) (0 : Int32) h165 n0 Z0 V_b17 V_b18 (fun h1 h2 => (own_ld D_v5 D_v6 (own_fr _) (own_bn0 40) (by decide) h1 h2).1) (fun h1 h2 => (own_ld D_v5 D_v6 (own_fr _) (own_bn0 40) (by decide) h1 h2).2.1) g_b17 (Ne.symm ne_b17_b18) g_b18) eH165 (by rw [hml]; rfl) (argsL := [(.int (1 : Int32)), (.int (0 : Int32)), (.double v5), (.double v6), (.ref b15), (.ref b16), (.ref b17), (.ref b18)]) rfl (lenOf pd_3 rfl) rfl at_167 (pc' := 170) rfl (by decide) (W := 0) (Nat.le_of_eq rfl) (by decide) (by decide) (by decide) (fun T168 h168 Lc168 v168r X168 eH168 hQ168 => ?_)
          obtain ⟨rfl, Nq168, Kq168, gq168_0, gq168_1⟩ := hQ168
          have N168 := Fr.app N165 Nq168
          replace E_b15 := E_b15.keep Kq168
          replace V_b15 := V_b15.keep Kq168 (ninS ne_b15_b17 (ninS ne_b15_b18 nin0))
          replace E_b16 := E_b16.keep Kq168
          replace V_b16 := V_b16.keep Kq168 (ninS ne_b16_b17 (ninS ne_b16_b18 nin0))
          replace E_b17 := E_b17.keep Kq168
          replace E_b18 := E_b18.keep Kq168
          replace E_b19 := E_b19.keep Kq168
          replace F_b19_downFalls := F_b19_downFalls.keep Kq168 (ninS (Ne.symm ne_b17_b19) (ninS (Ne.symm ne_b18_b19) nin0))
          replace F_b19_downCounts := F_b19_downCounts.keep Kq168 (ninS (Ne.symm ne_b17_b19) (ninS (Ne.symm ne_b18_b19) nin0))
          replace F_b19_upFalls := F_b19_upFalls.keep Kq168 (ninS (Ne.symm ne_b17_b19) (ninS (Ne.symm ne_b18_b19) nin0))
          replace F_b19_upCounts := F_b19_upCounts.keep Kq168 (ninS (Ne.symm ne_b17_b19) (ninS (Ne.symm ne_b18_b19) nin0))
          replace E_b4_20 := E_b4_20.keep Kq168
          replace V_b4_20 := V_b4_20.keep Kq168 (ninS (Ne.symm ne_b17_b4_20) (ninS (Ne.symm ne_b18_b4_20) nin0))
          replace E_b6_20 := E_b6_20.keep Kq168
          replace V_b6_20 := V_b6_20.keep Kq168 (ninS (Ne.symm ne_b17_b6_20) (ninS (Ne.symm ne_b18_b6_20) nin0))
          replace E_b8_20 := E_b8_20.keep Kq168
          replace V_b8_20 := V_b8_20.keep Kq168 (ninS (Ne.symm ne_b17_b8_20) (ninS (Ne.symm ne_b18_b8_20) nin0))
          replace E_b10_20 := E_b10_20.keep Kq168
          replace V_b10_20 := V_b10_20.keep Kq168 (ninS (Ne.symm ne_b17_b10_20) (ninS (Ne.symm ne_b18_b10_20) nin0))
          have V_b17 : Ary tr Z h168 b17 .double [(.double (0 : UInt64)), (.double v148)] := by rw [← q_v148]; exact gq168_0
          have V_b18 : Ary tr Z h168 b18 .int [(.int (0 : Int32)), (.int n149)] := by rw [← q_n149]; exact gq168_1
          replace Z0 := Nat.le_trans Z0 Kq168.1
          refine own_iload X168 hx hby rfl at_170 (pc' := 172) rfl ?_
          refine own_iload X168 hx hby rfl at_172 (pc' := 174) rfl ?_
          refine own_dload X168 hx hby rfl at_174 (pc' := 176) rfl ?_
          refine own_dload X168 hx hby rfl at_176 (pc' := 178) rfl ?_
          refine own_aload X168 hx hby rfl rfl at_178 (pc' := 180) rfl ?_
          refine own_aload X168 hx hby rfl rfl at_180 (pc' := 182) rfl ?_
          refine own_aload X168 hx hby rfl rfl at_182 (pc' := 184) rfl ?_
          refine own_aload X168 hx hby rfl rfl at_184 (pc' := 186) rfl ?_
          refine own_static X168 hx hby hZ (y := (⟨"com/example/bidfold/bidfold/BranchingLearnPinLaw", "model", "(IZDD[D[I[D[I)V"⟩ : MethodName)) (rest := []) hown (hw _ (List.mem_of_getElem? (i := 37) rfl)) (hw _ (List.mem_of_getElem? (i := 38) rfl)) (hw _ (List.mem_of_getElem? (i := 40) rfl)) (hw _ (List.mem_of_getElem? (i := 39) rfl)) (by decide) (rm401 l Z a0 hw [] v11 v12 b15 b16 b17 b18 (0 : UInt64) (0 : UInt64) (0 : Int32) (0 : Int32) h168 n0 Z0 V_b15 V_b16 (fun h1 h2 => (own_lu D_v11 D_v12 (own_fr _) (own_bn0 40) (by decide) h1 h2).1) (fun h1 h2 => (own_lu D_v11 D_v12 (own_fr _) (own_bn0 40) (by decide) h1 h2).2.1) (fun h1 h2 => (own_lu D_v11 D_v12 (own_fr _) (own_bn0 40) (by decide) h1 h2).2.2.1) g_b15 (Ne.symm ne_b15_b16) g_b16) eH168 (by rw [hml]; rfl) (argsL := [(.int (0 : Int32)), (.int (1 : Int32)), (.double v11), (.double v12), (.ref b15), (.ref b16), (.ref b17), (.ref b18)]) rfl (lenOf pd_3 rfl) rfl at_186 (pc' := 189) rfl (by decide) (W := 0) (Nat.le_of_eq rfl) (by decide) (by decide) (by decide) (fun T169 h169 Lc169 v169r X169 eH169 hQ169 => ?_)
          obtain ⟨rfl, Nq169, Kq169, gq169_0, gq169_1⟩ := hQ169
          have N169 := Fr.app N168 Nq169
          replace E_b15 := E_b15.keep Kq169
          replace E_b16 := E_b16.keep Kq169
          replace E_b17 := E_b17.keep Kq169
          replace V_b17 := V_b17.keep Kq169 (ninS (Ne.symm ne_b15_b17) (ninS (Ne.symm ne_b16_b17) nin0))
          replace E_b18 := E_b18.keep Kq169
          replace V_b18 := V_b18.keep Kq169 (ninS (Ne.symm ne_b15_b18) (ninS (Ne.symm ne_b16_b18) nin0))
          replace E_b19 := E_b19.keep Kq169
          replace F_b19_downFalls := F_b19_downFalls.keep Kq169 (ninS (Ne.symm ne_b15_b19) (ninS (Ne.symm ne_b16_b19) nin0))
          replace F_b19_downCounts := F_b19_downCounts.keep Kq169 (ninS (Ne.symm ne_b15_b19) (ninS (Ne.symm ne_b16_b19) nin0))
          replace F_b19_upFalls := F_b19_upFalls.keep Kq169 (ninS (Ne.symm ne_b15_b19) (ninS (Ne.symm ne_b16_b19) nin0))
          replace F_b19_upCounts := F_b19_upCounts.keep Kq169 (ninS (Ne.symm ne_b15_b19) (ninS (Ne.symm ne_b16_b19) nin0))
          replace E_b4_20 := E_b4_20.keep Kq169
          replace V_b4_20 := V_b4_20.keep Kq169 (ninS (Ne.symm ne_b15_b4_20) (ninS (Ne.symm ne_b16_b4_20) nin0))
          replace E_b6_20 := E_b6_20.keep Kq169
          replace V_b6_20 := V_b6_20.keep Kq169 (ninS (Ne.symm ne_b15_b6_20) (ninS (Ne.symm ne_b16_b6_20) nin0))
          replace E_b8_20 := E_b8_20.keep Kq169
          replace V_b8_20 := V_b8_20.keep Kq169 (ninS (Ne.symm ne_b15_b8_20) (ninS (Ne.symm ne_b16_b8_20) nin0))
          replace E_b10_20 := E_b10_20.keep Kq169
          replace V_b10_20 := V_b10_20.keep Kq169 (ninS (Ne.symm ne_b15_b10_20) (ninS (Ne.symm ne_b16_b10_20) nin0))
          have V_b15 : Ary tr Z h169 b15 .double [(.double v166), (.double (0 : UInt64))] := by rw [← q_v166]; exact gq169_0
          have V_b16 : Ary tr Z h169 b16 .int [(.int n167), (.int (0 : Int32))] := by rw [← q_n167]; exact gq169_1
          replace Z0 := Nat.le_trans Z0 Kq169.1
          refine own_aload X169 hx hby rfl rfl at_189 (pc' := 191) rfl ?_
          refine own_iconst X169 hx hby (v := (0 : Int32)) (by decide) at_191 (pc' := 192) rfl ?_
          refine own_dload X169 hx hby rfl at_192 (pc' := 194) rfl ?_
          refine own_virtual X169 hx hby hZ (y := (⟨"com/example/bidfold/bidfold/Branching", "leansIn", "(ID)Z"⟩ : MethodName)) (y' := (⟨"com/example/bidfold/bidfold/Branching", "leansIn", "(ID)Z"⟩ : MethodName)) (C := "com/example/bidfold/bidfold/Branching") (rest := []) hown (hw _ (List.mem_of_getElem? (i := 42) rfl)) (hw _ (List.mem_of_getElem? (i := 43) rfl)) (notFace_of_selects (args := #[]) (mvT hZ (hw _ (List.mem_of_getElem? (i := 45) rfl)))) (hw _ (List.mem_of_getElem? (i := 45) rfl)) (hw _ (List.mem_of_getElem? (i := 44) rfl)) (hw _ (List.mem_of_getElem? (i := 46) rfl)) (hw _ (List.mem_of_getElem? (i := 10) rfl)) (by decide) (rm50 l Z a0 hw [] b19 v14 b8_20 b10_20 v166 (0 : UInt64) n167 (0 : Int32) b4_20 b6_20 (0 : UInt64) v148 (0 : Int32) n149 h169 n0 Z0 F_b19_upFalls F_b19_upCounts V_b8_20 V_b10_20 F_b19_downFalls F_b19_downCounts V_b4_20 V_b6_20 (fun h => (own_fq B_v166 (by decide) h).nn) P1.nn ((own_fpu B_v166 (by decide)).mul P1 (by decide)).nn (fun h => (own_fq (own_bn0 40) (by decide) h).nn) ((own_fpu (own_bn0 40) (by decide)).mul P0 (by decide)).nn) eH169 (by rw [hml]; rfl) (a := b19) E_b19 (argsL := [(.int (0 : Int32)), (.double v14)]) rfl (lenOf pd_4 rfl) rfl at_194 (pc' := 197) rfl (by decide) (W := 0) (Nat.le_of_eq rfl) (by decide) (by decide) (by decide) (fun T170 h170 Lc170 v170r X170 eH170 hQ170 => ?_)
          obtain ⟨rfl, Nq170, rfl⟩ := hQ170
          have N170 := Fr.app N169 Nq170
          dsimp only [Option.toList, List.cons_append, List.nil_append]
          generalize q_r171 : (if dle (FP.dmul (if 0 < n167 then (FP.ddiv v166 (FP.i2d n167)) else (4607182418800017408 : UInt64)) (FP.dsub (4607182418800017408 : UInt64) v14)) (FP.dmul (if 0 < (0 : Int32) then (FP.ddiv (0 : UInt64) (FP.i2d (0 : Int32))) else (4607182418800017408 : UInt64)) v14) then (1 : Int32) else (0 : Int32)) = r171
          refine own_iconst X170 hx hby (v := (0 : Int32)) (by decide) at_197 (pc' := 198) rfl ?_
          refine own_dload X170 hx hby rfl at_198 (pc' := 200) rfl ?_
          refine own_aload X170 hx hby rfl rfl at_200 (pc' := 202) rfl ?_
          refine own_aload X170 hx hby rfl rfl at_202 (pc' := 204) rfl ?_
          refine own_aload X170 hx hby rfl rfl at_204 (pc' := 206) rfl ?_
          refine own_aload X170 hx hby rfl rfl at_206 (pc' := 208) rfl ?_
          refine own_static X170 hx hby hZ (y := (⟨"com/example/bidfold/bidfold/BranchingLearnPinLaw", "expect", "(ID[D[I[D[I)Z"⟩ : MethodName)) (rest := [(.int r171)]) hown (hw _ (List.mem_of_getElem? (i := 50) rfl)) (hw _ (List.mem_of_getElem? (i := 51) rfl)) (hw _ (List.mem_of_getElem? (i := 52) rfl)) (hw _ (List.mem_of_getElem? (i := 39) rfl)) (by decide) (rm70 l Z a0 hw [] v14 b15 b16 b17 b18 v166 (0 : UInt64) n167 (0 : Int32) (0 : UInt64) v148 (0 : Int32) n149 h169 n0 Z0 V_b15 V_b16 V_b17 V_b18 (fun h => (own_fq B_v166 (by decide) h).nn) (fun h => (own_fq (own_bn0 40) (by decide) h).nn) P1.nn ((own_fpu B_v166 (by decide)).mul P1 (by decide)).nn ((own_fpu (own_bn0 40) (by decide)).mul P0 (by decide)).nn) eH170 (by rw [hml]; rfl) (argsL := [(.int (0 : Int32)), (.double v14), (.ref b15), (.ref b16), (.ref b17), (.ref b18)]) rfl (lenOf pd_5 rfl) rfl at_208 (pc' := 211) rfl (by decide) (W := 1) (Nat.le_of_eq rfl) (by decide) (by decide) (by decide) (fun T172 h172 Lc172 v172r X172 eH172 hQ172 => ?_)
          obtain ⟨rfl, Nq172, rfl⟩ := hQ172
          have N172 := Fr.app N170 Nq172
          dsimp only [Option.toList, List.cons_append, List.nil_append]
          generalize q_r173 : (if dle (FP.dmul (if 0 < n167 then (FP.ddiv v166 (FP.i2d n167)) else (4607182418800017408 : UInt64)) (FP.dsub (4607182418800017408 : UInt64) v14)) (FP.dmul (if 0 < (0 : Int32) then (FP.ddiv (0 : UInt64) (FP.i2d (0 : Int32))) else (4607182418800017408 : UInt64)) v14) then (1 : Int32) else (0 : Int32)) = r173
          have hk174 : r171 = r173 := q_r171.symm.trans q_r173
          refine own_icF X172 hx hby at_211 (own_ic_ne_p hk174) (pc' := 214) rfl ?_
          refine own_aload X172 hx hby rfl rfl at_214 (pc' := 216) rfl ?_
          refine own_iconst X172 hx hby (v := (1 : Int32)) (by decide) at_216 (pc' := 217) rfl ?_
          refine own_dload X172 hx hby rfl at_217 (pc' := 219) rfl ?_
          refine own_virtual X172 hx hby hZ (y := (⟨"com/example/bidfold/bidfold/Branching", "leansIn", "(ID)Z"⟩ : MethodName)) (y' := (⟨"com/example/bidfold/bidfold/Branching", "leansIn", "(ID)Z"⟩ : MethodName)) (C := "com/example/bidfold/bidfold/Branching") (rest := []) hown (hw _ (List.mem_of_getElem? (i := 42) rfl)) (hw _ (List.mem_of_getElem? (i := 43) rfl)) (notFace_of_selects (args := #[]) (mvT hZ (hw _ (List.mem_of_getElem? (i := 45) rfl)))) (hw _ (List.mem_of_getElem? (i := 45) rfl)) (hw _ (List.mem_of_getElem? (i := 44) rfl)) (hw _ (List.mem_of_getElem? (i := 46) rfl)) (hw _ (List.mem_of_getElem? (i := 10) rfl)) (by decide) (rm51 l Z a0 hw [] b19 v14 b8_20 b10_20 v166 (0 : UInt64) n167 (0 : Int32) b4_20 b6_20 (0 : UInt64) v148 (0 : Int32) n149 h169 n0 Z0 F_b19_upFalls F_b19_upCounts V_b8_20 V_b10_20 F_b19_downFalls F_b19_downCounts V_b4_20 V_b6_20 (fun h => (own_fq (own_bn0 40) (by decide) h).nn) P1.nn ((own_fpu (own_bn0 40) (by decide)).mul P1 (by decide)).nn (fun h => (own_fq B_v148 (by decide) h).nn) ((own_fpu B_v148 (by decide)).mul P0 (by decide)).nn) eH172 (by rw [hml]; rfl) (a := b19) E_b19 (argsL := [(.int (1 : Int32)), (.double v14)]) rfl (lenOf pd_4 rfl) rfl at_219 (pc' := 222) rfl (by decide) (W := 0) (Nat.le_of_eq rfl) (by decide) (by decide) (by decide) (fun T175 h175 Lc175 v175r X175 eH175 hQ175 => ?_)
          obtain ⟨rfl, Nq175, rfl⟩ := hQ175
          have N175 := Fr.app N172 Nq175
          dsimp only [Option.toList, List.cons_append, List.nil_append]
          generalize q_r176 : (if dle (FP.dmul (if 0 < (0 : Int32) then (FP.ddiv (0 : UInt64) (FP.i2d (0 : Int32))) else (4607182418800017408 : UInt64)) (FP.dsub (4607182418800017408 : UInt64) v14)) (FP.dmul (if 0 < n149 then (FP.ddiv v148 (FP.i2d n149)) else (4607182418800017408 : UInt64)) v14) then (1 : Int32) else (0 : Int32)) = r176
          refine own_iconst X175 hx hby (v := (1 : Int32)) (by decide) at_222 (pc' := 223) rfl ?_
          refine own_dload X175 hx hby rfl at_223 (pc' := 225) rfl ?_
          refine own_aload X175 hx hby rfl rfl at_225 (pc' := 227) rfl ?_
          refine own_aload X175 hx hby rfl rfl at_227 (pc' := 229) rfl ?_
          refine own_aload X175 hx hby rfl rfl at_229 (pc' := 231) rfl ?_
          refine own_aload X175 hx hby rfl rfl at_231 (pc' := 233) rfl ?_
          refine own_static X175 hx hby hZ (y := (⟨"com/example/bidfold/bidfold/BranchingLearnPinLaw", "expect", "(ID[D[I[D[I)Z"⟩ : MethodName)) (rest := [(.int r176)]) hown (hw _ (List.mem_of_getElem? (i := 50) rfl)) (hw _ (List.mem_of_getElem? (i := 51) rfl)) (hw _ (List.mem_of_getElem? (i := 52) rfl)) (hw _ (List.mem_of_getElem? (i := 39) rfl)) (by decide) (rm71 l Z a0 hw [] v14 b15 b16 b17 b18 v166 (0 : UInt64) n167 (0 : Int32) (0 : UInt64) v148 (0 : Int32) n149 h169 n0 Z0 V_b15 V_b16 V_b17 V_b18 (fun h => (own_fq (own_bn0 40) (by decide) h).nn) (fun h => (own_fq B_v148 (by decide) h).nn) P1.nn ((own_fpu (own_bn0 40) (by decide)).mul P1 (by decide)).nn ((own_fpu B_v148 (by decide)).mul P0 (by decide)).nn) eH175 (by rw [hml]; rfl) (argsL := [(.int (1 : Int32)), (.double v14), (.ref b15), (.ref b16), (.ref b17), (.ref b18)]) rfl (lenOf pd_5 rfl) rfl at_233 (pc' := 236) rfl (by decide) (W := 1) (Nat.le_of_eq rfl) (by decide) (by decide) (by decide) (fun T177 h177 Lc177 v177r X177 eH177 hQ177 => ?_)
          obtain ⟨rfl, Nq177, rfl⟩ := hQ177
          have N177 := Fr.app N175 Nq177
          dsimp only [Option.toList, List.cons_append, List.nil_append]
          generalize q_r178 : (if dle (FP.dmul (if 0 < (0 : Int32) then (FP.ddiv (0 : UInt64) (FP.i2d (0 : Int32))) else (4607182418800017408 : UInt64)) (FP.dsub (4607182418800017408 : UInt64) v14)) (FP.dmul (if 0 < n149 then (FP.ddiv v148 (FP.i2d n149)) else (4607182418800017408 : UInt64)) v14) then (1 : Int32) else (0 : Int32)) = r178
          have hk179 : r176 = r178 := q_r176.symm.trans q_r178
          refine own_icF X177 hx hby at_236 (own_ic_ne_p hk179) (pc' := 239) rfl ?_
          refine own_iconst X177 hx hby (v := (1 : Int32)) (by decide) at_239 (pc' := 240) rfl ?_
          refine own_goto X177 hx hby at_240 (by decide) (pc' := 244) (by decide) ?_
          exact own_retZ X177 hx hby Bd.notSynchronized Bd.returns (Or.inr rfl) at_244 (by decide) (by decide) eH177 ⟨rfl, N177⟩
      · refine own_aload X147 hx hby rfl rfl at_138 (pc' := 140) rfl ?_
        rcases own_ite01 q_w8 with rfl | rfl
        · refine own_iload X147 hx hby rfl at_140 (pc' := 142) rfl ?_
          refine own_iload X147 hx hby rfl at_142 (pc' := 144) rfl ?_
          refine own_dload X147 hx hby rfl at_144 (pc' := 146) rfl ?_
          refine own_dload X147 hx hby rfl at_146 (pc' := 148) rfl ?_
          refine own_virtual X147 hx hby hZ (y := (⟨"com/example/bidfold/bidfold/Branching", "learn", "(IZDD)V"⟩ : MethodName)) (y' := (⟨"com/example/bidfold/bidfold/Branching", "learn", "(IZDD)V"⟩ : MethodName)) (C := "com/example/bidfold/bidfold/Branching") (rest := []) hown (hw _ (List.mem_of_getElem? (i := 31) rfl)) (hw _ (List.mem_of_getElem? (i := 32) rfl)) (notFace_of_selects (args := #[]) (mvT hZ (hw _ (List.mem_of_getElem? (i := 34) rfl)))) (hw _ (List.mem_of_getElem? (i := 34) rfl)) (hw _ (List.mem_of_getElem? (i := 33) rfl)) (hw _ (List.mem_of_getElem? (i := 35) rfl)) (hw _ (List.mem_of_getElem? (i := 10) rfl)) (by decide) (rm310 l Z a0 hw [] b19 v11 v12 b4_20 b6_20 (0 : UInt64) v148 (0 : Int32) n149 h147 n0 Z0 F_b19_downFalls F_b19_downCounts V_b4_20 V_b6_20 (fun h1 h2 => (own_ld D_v11 D_v12 (own_fr _) B_v148 (by decide) h1 h2).1) (fun h1 h2 => (own_ld D_v11 D_v12 (own_fr _) B_v148 (by decide) h1 h2).2.1) g_b4_20 ne_b19_b4_20 (Ne.symm ne_b4_20_b6_20) g_b6_20 ne_b19_b6_20) eH147 (by rw [hml]; rfl) (a := b19) E_b19 (argsL := [(.int (1 : Int32)), (.int (0 : Int32)), (.double v11), (.double v12)]) rfl (lenOf pd_2 rfl) rfl at_148 (pc' := 151) rfl (by decide) (W := 0) (Nat.le_of_eq rfl) (by decide) (by decide) (by decide) (fun T180 h180 Lc180 v180r X180 eH180 hQ180 => ?_)
          obtain ⟨rfl, Nq180, Kq180, gq180_0, gq180_1⟩ := hQ180
          have N180 := Fr.app N147 Nq180
          replace E_b15 := E_b15.keep Kq180
          replace V_b15 := V_b15.keep Kq180 (ninS ne_b15_b4_20 (ninS ne_b15_b6_20 nin0))
          replace E_b16 := E_b16.keep Kq180
          replace V_b16 := V_b16.keep Kq180 (ninS ne_b16_b4_20 (ninS ne_b16_b6_20 nin0))
          replace E_b17 := E_b17.keep Kq180
          replace V_b17 := V_b17.keep Kq180 (ninS ne_b17_b4_20 (ninS ne_b17_b6_20 nin0))
          replace E_b18 := E_b18.keep Kq180
          replace V_b18 := V_b18.keep Kq180 (ninS ne_b18_b4_20 (ninS ne_b18_b6_20 nin0))
          replace E_b19 := E_b19.keep Kq180
          replace F_b19_downFalls := F_b19_downFalls.keep Kq180 (ninS ne_b19_b4_20 (ninS ne_b19_b6_20 nin0))
          replace F_b19_downCounts := F_b19_downCounts.keep Kq180 (ninS ne_b19_b4_20 (ninS ne_b19_b6_20 nin0))
          replace F_b19_upFalls := F_b19_upFalls.keep Kq180 (ninS ne_b19_b4_20 (ninS ne_b19_b6_20 nin0))
          replace F_b19_upCounts := F_b19_upCounts.keep Kq180 (ninS ne_b19_b4_20 (ninS ne_b19_b6_20 nin0))
          replace E_b4_20 := E_b4_20.keep Kq180
          replace E_b6_20 := E_b6_20.keep Kq180
          replace E_b8_20 := E_b8_20.keep Kq180
          replace V_b8_20 := V_b8_20.keep Kq180 (ninS (Ne.symm ne_b4_20_b8_20) (ninS (Ne.symm ne_b6_20_b8_20) nin0))
          replace E_b10_20 := E_b10_20.keep Kq180
          replace V_b10_20 := V_b10_20.keep Kq180 (ninS (Ne.symm ne_b4_20_b10_20) (ninS (Ne.symm ne_b6_20_b10_20) nin0))
          obtain ⟨v181, q_v181⟩ : ∃ z : UInt64, (if dle v11 (4517329193108106637 : UInt64) then v148 else (if dge v11 (4607182409792818153 : UInt64) then v148 else (FP.dadd v148 (FP.ddiv v12 v11)))) = z := ⟨_, rfl⟩
          have V_b4_20 : Ary tr Z h180 b4_20 .double [(.double (0 : UInt64)), (.double v181)] := by rw [← q_v181]; exact gq180_0
          obtain ⟨n182, q_n182⟩ : ∃ z : Int32, (if dle v11 (4517329193108106637 : UInt64) then n149 else (if dge v11 (4607182409792818153 : UInt64) then n149 else (n149 + (1 : Int32)))) = z := ⟨_, rfl⟩
          have V_b6_20 : Ary tr Z h180 b6_20 .int [(.int (0 : Int32)), (.int n182)] := by rw [← q_n182]; exact gq180_1
          replace Z0 := Nat.le_trans Z0 Kq180.1
          have B_v181 : Bn v181 42 := q_v181 ▸ own_tr B_v148 (fun h1 h2 => (own_ld D_v11 D_v12 (own_fr _) B_v148 (by decide) h1 h2).2.2)
          refine own_iload X180 hx hby rfl at_151 (pc' := 153) rfl ?_
          refine own_iload X180 hx hby rfl at_153 (pc' := 155) rfl ?_
          refine own_dload X180 hx hby rfl at_155 (pc' := 157) rfl ?_
          refine own_dload X180 hx hby rfl at_157 (pc' := 159) rfl ?_
          refine own_aload X180 hx hby rfl rfl at_159 (pc' := 161) rfl ?_
          refine own_aload X180 hx hby rfl rfl at_161 (pc' := 163) rfl ?_
          refine own_aload X180 hx hby rfl rfl at_163 (pc' := 165) rfl ?_
          refine own_aload X180 hx hby rfl rfl at_165 (pc' := 167) rfl ?_
          refine own_static X180 hx hby hZ (y := (⟨"com/example/bidfold/bidfold/BranchingLearnPinLaw", "model", "(IZDD[D[I[D[I)V"⟩ : MethodName)) (rest := []) hown (hw _ (List.mem_of_getElem? (i := 37) rfl)) (hw _ (List.mem_of_getElem? (i := 38) rfl)) (hw _ (List.mem_of_getElem? (i := 40) rfl)) (hw _ (List.mem_of_getElem? (i := 39) rfl)) (by decide) (rm410 l Z a0 hw [] v5 v6 b15 b16 b17 b18 (0 : UInt64) (0 : UInt64) (0 : Int32) (0 : Int32) h180 n0 Z0 V_b17 V_b18 (fun h1 h2 => (own_ld D_v5 D_v6 (own_fr _) (own_bn0 40) (by decide) h1 h2).1) (fun h1 h2 => (own_ld D_v5 D_v6 (own_fr _) (own_bn0 40) (by decide) h1 h2).2.1) g_b17 (Ne.symm ne_b17_b18) g_b18) eH180 (by rw [hml]; rfl) (argsL := [(.int (1 : Int32)), (.int (0 : Int32)), (.double v5), (.double v6), (.ref b15), (.ref b16), (.ref b17), (.ref b18)]) rfl (lenOf pd_3 rfl) rfl at_167 (pc' := 170) rfl (by decide) (W := 0) (Nat.le_of_eq rfl) (by decide) (by decide) (by decide) (fun T183 h183 Lc183 v183r X183 eH183 hQ183 => ?_)
          obtain ⟨rfl, Nq183, Kq183, gq183_0, gq183_1⟩ := hQ183
          have N183 := Fr.app N180 Nq183
          replace E_b15 := E_b15.keep Kq183
          replace V_b15 := V_b15.keep Kq183 (ninS ne_b15_b17 (ninS ne_b15_b18 nin0))
          replace E_b16 := E_b16.keep Kq183
          replace V_b16 := V_b16.keep Kq183 (ninS ne_b16_b17 (ninS ne_b16_b18 nin0))
          replace E_b17 := E_b17.keep Kq183
          replace E_b18 := E_b18.keep Kq183
          replace E_b19 := E_b19.keep Kq183
          replace F_b19_downFalls := F_b19_downFalls.keep Kq183 (ninS (Ne.symm ne_b17_b19) (ninS (Ne.symm ne_b18_b19) nin0))
          replace F_b19_downCounts := F_b19_downCounts.keep Kq183 (ninS (Ne.symm ne_b17_b19) (ninS (Ne.symm ne_b18_b19) nin0))
          replace F_b19_upFalls := F_b19_upFalls.keep Kq183 (ninS (Ne.symm ne_b17_b19) (ninS (Ne.symm ne_b18_b19) nin0))
          replace F_b19_upCounts := F_b19_upCounts.keep Kq183 (ninS (Ne.symm ne_b17_b19) (ninS (Ne.symm ne_b18_b19) nin0))
          replace E_b4_20 := E_b4_20.keep Kq183
          replace V_b4_20 := V_b4_20.keep Kq183 (ninS (Ne.symm ne_b17_b4_20) (ninS (Ne.symm ne_b18_b4_20) nin0))
          replace E_b6_20 := E_b6_20.keep Kq183
          replace V_b6_20 := V_b6_20.keep Kq183 (ninS (Ne.symm ne_b17_b6_20) (ninS (Ne.symm ne_b18_b6_20) nin0))
          replace E_b8_20 := E_b8_20.keep Kq183
          replace V_b8_20 := V_b8_20.keep Kq183 (ninS (Ne.symm ne_b17_b8_20) (ninS (Ne.symm ne_b18_b8_20) nin0))
          replace E_b10_20 := E_b10_20.keep Kq183
          replace V_b10_20 := V_b10_20.keep Kq183 (ninS (Ne.symm ne_b17_b10_20) (ninS (Ne.symm ne_b18_b10_20) nin0))
          have V_b17 : Ary tr Z h183 b17 .double [(.double (0 : UInt64)), (.double v148)] := by rw [← q_v148]; exact gq183_0
          have V_b18 : Ary tr Z h183 b18 .int [(.int (0 : Int32)), (.int n149)] := by rw [← q_n149]; exact gq183_1
          replace Z0 := Nat.le_trans Z0 Kq183.1
          refine own_iload X183 hx hby rfl at_170 (pc' := 172) rfl ?_
          refine own_iload X183 hx hby rfl at_172 (pc' := 174) rfl ?_
          refine own_dload X183 hx hby rfl at_174 (pc' := 176) rfl ?_
          refine own_dload X183 hx hby rfl at_176 (pc' := 178) rfl ?_
          refine own_aload X183 hx hby rfl rfl at_178 (pc' := 180) rfl ?_
          refine own_aload X183 hx hby rfl rfl at_180 (pc' := 182) rfl ?_
          refine own_aload X183 hx hby rfl rfl at_182 (pc' := 184) rfl ?_
          refine own_aload X183 hx hby rfl rfl at_184 (pc' := 186) rfl ?_
          refine own_static X183 hx hby hZ (y := (⟨"com/example/bidfold/bidfold/BranchingLearnPinLaw", "model", "(IZDD[D[I[D[I)V"⟩ : MethodName)) (rest := []) hown (hw _ (List.mem_of_getElem? (i := 37) rfl)) (hw _ (List.mem_of_getElem? (i := 38) rfl)) (hw _ (List.mem_of_getElem? (i := 40) rfl)) (hw _ (List.mem_of_getElem? (i := 39) rfl)) (by decide) (rm410 l Z a0 hw [] v11 v12 b15 b16 b17 b18 (0 : UInt64) v148 (0 : Int32) n149 h183 n0 Z0 V_b17 V_b18 (fun h1 h2 => (own_ld D_v11 D_v12 (own_fr _) B_v148 (by decide) h1 h2).1) (fun h1 h2 => (own_ld D_v11 D_v12 (own_fr _) B_v148 (by decide) h1 h2).2.1) g_b17 (Ne.symm ne_b17_b18) g_b18) eH183 (by rw [hml]; rfl) (argsL := [(.int (1 : Int32)), (.int (0 : Int32)), (.double v11), (.double v12), (.ref b15), (.ref b16), (.ref b17), (.ref b18)]) rfl (lenOf pd_3 rfl) rfl at_186 (pc' := 189) rfl (by decide) (W := 0) (Nat.le_of_eq rfl) (by decide) (by decide) (by decide) (fun T184 h184 Lc184 v184r X184 eH184 hQ184 => ?_)
          obtain ⟨rfl, Nq184, Kq184, gq184_0, gq184_1⟩ := hQ184
          have N184 := Fr.app N183 Nq184
          replace E_b15 := E_b15.keep Kq184
          replace V_b15 := V_b15.keep Kq184 (ninS ne_b15_b17 (ninS ne_b15_b18 nin0))
          replace E_b16 := E_b16.keep Kq184
          replace V_b16 := V_b16.keep Kq184 (ninS ne_b16_b17 (ninS ne_b16_b18 nin0))
          replace E_b17 := E_b17.keep Kq184
          replace E_b18 := E_b18.keep Kq184
          replace E_b19 := E_b19.keep Kq184
          replace F_b19_downFalls := F_b19_downFalls.keep Kq184 (ninS (Ne.symm ne_b17_b19) (ninS (Ne.symm ne_b18_b19) nin0))
          replace F_b19_downCounts := F_b19_downCounts.keep Kq184 (ninS (Ne.symm ne_b17_b19) (ninS (Ne.symm ne_b18_b19) nin0))
          replace F_b19_upFalls := F_b19_upFalls.keep Kq184 (ninS (Ne.symm ne_b17_b19) (ninS (Ne.symm ne_b18_b19) nin0))
          replace F_b19_upCounts := F_b19_upCounts.keep Kq184 (ninS (Ne.symm ne_b17_b19) (ninS (Ne.symm ne_b18_b19) nin0))
          replace E_b4_20 := E_b4_20.keep Kq184
          replace V_b4_20 := V_b4_20.keep Kq184 (ninS (Ne.symm ne_b17_b4_20) (ninS (Ne.symm ne_b18_b4_20) nin0))
          replace E_b6_20 := E_b6_20.keep Kq184
          replace V_b6_20 := V_b6_20.keep Kq184 (ninS (Ne.symm ne_b17_b6_20) (ninS (Ne.symm ne_b18_b6_20) nin0))
          replace E_b8_20 := E_b8_20.keep Kq184
          replace V_b8_20 := V_b8_20.keep Kq184 (ninS (Ne.symm ne_b17_b8_20) (ninS (Ne.symm ne_b18_b8_20) nin0))
          replace E_b10_20 := E_b10_20.keep Kq184
          replace V_b10_20 := V_b10_20.keep Kq184 (ninS (Ne.symm ne_b17_b10_20) (ninS (Ne.symm ne_b18_b10_20) nin0))
          have V_b17 : Ary tr Z h184 b17 .double [(.double (0 : UInt64)), (.double v181)] := by rw [← q_v181]; exact gq184_0
          have V_b18 : Ary tr Z h184 b18 .int [(.int (0 : Int32)), (.int n182)] := by rw [← q_n182]; exact gq184_1
          replace Z0 := Nat.le_trans Z0 Kq184.1
          refine own_aload X184 hx hby rfl rfl at_189 (pc' := 191) rfl ?_
          refine own_iconst X184 hx hby (v := (0 : Int32)) (by decide) at_191 (pc' := 192) rfl ?_
          refine own_dload X184 hx hby rfl at_192 (pc' := 194) rfl ?_
          refine own_virtual X184 hx hby hZ (y := (⟨"com/example/bidfold/bidfold/Branching", "leansIn", "(ID)Z"⟩ : MethodName)) (y' := (⟨"com/example/bidfold/bidfold/Branching", "leansIn", "(ID)Z"⟩ : MethodName)) (C := "com/example/bidfold/bidfold/Branching") (rest := []) hown (hw _ (List.mem_of_getElem? (i := 42) rfl)) (hw _ (List.mem_of_getElem? (i := 43) rfl)) (notFace_of_selects (args := #[]) (mvT hZ (hw _ (List.mem_of_getElem? (i := 45) rfl)))) (hw _ (List.mem_of_getElem? (i := 45) rfl)) (hw _ (List.mem_of_getElem? (i := 44) rfl)) (hw _ (List.mem_of_getElem? (i := 46) rfl)) (hw _ (List.mem_of_getElem? (i := 10) rfl)) (by decide) (rm50 l Z a0 hw [] b19 v14 b8_20 b10_20 (0 : UInt64) (0 : UInt64) (0 : Int32) (0 : Int32) b4_20 b6_20 (0 : UInt64) v181 (0 : Int32) n182 h184 n0 Z0 F_b19_upFalls F_b19_upCounts V_b8_20 V_b10_20 F_b19_downFalls F_b19_downCounts V_b4_20 V_b6_20 (fun h => (own_fq (own_bn0 40) (by decide) h).nn) P1.nn ((own_fpu (own_bn0 40) (by decide)).mul P1 (by decide)).nn (fun h => (own_fq (own_bn0 40) (by decide) h).nn) ((own_fpu (own_bn0 40) (by decide)).mul P0 (by decide)).nn) eH184 (by rw [hml]; rfl) (a := b19) E_b19 (argsL := [(.int (0 : Int32)), (.double v14)]) rfl (lenOf pd_4 rfl) rfl at_194 (pc' := 197) rfl (by decide) (W := 0) (Nat.le_of_eq rfl) (by decide) (by decide) (by decide) (fun T185 h185 Lc185 v185r X185 eH185 hQ185 => ?_)
          obtain ⟨rfl, Nq185, rfl⟩ := hQ185
          have N185 := Fr.app N184 Nq185
          dsimp only [Option.toList, List.cons_append, List.nil_append]
          generalize q_r186 : (if dle (FP.dmul (if 0 < (0 : Int32) then (FP.ddiv (0 : UInt64) (FP.i2d (0 : Int32))) else (4607182418800017408 : UInt64)) (FP.dsub (4607182418800017408 : UInt64) v14)) (FP.dmul (if 0 < (0 : Int32) then (FP.ddiv (0 : UInt64) (FP.i2d (0 : Int32))) else (4607182418800017408 : UInt64)) v14) then (1 : Int32) else (0 : Int32)) = r186
          refine own_iconst X185 hx hby (v := (0 : Int32)) (by decide) at_197 (pc' := 198) rfl ?_
          refine own_dload X185 hx hby rfl at_198 (pc' := 200) rfl ?_
          refine own_aload X185 hx hby rfl rfl at_200 (pc' := 202) rfl ?_
          refine own_aload X185 hx hby rfl rfl at_202 (pc' := 204) rfl ?_
          refine own_aload X185 hx hby rfl rfl at_204 (pc' := 206) rfl ?_
          refine own_aload X185 hx hby rfl rfl at_206 (pc' := 208) rfl ?_
          refine own_static X185 hx hby hZ (y := (⟨"com/example/bidfold/bidfold/BranchingLearnPinLaw", "expect", "(ID[D[I[D[I)Z"⟩ : MethodName)) (rest := [(.int r186)]) hown (hw _ (List.mem_of_getElem? (i := 50) rfl)) (hw _ (List.mem_of_getElem? (i := 51) rfl)) (hw _ (List.mem_of_getElem? (i := 52) rfl)) (hw _ (List.mem_of_getElem? (i := 39) rfl)) (by decide) (rm70 l Z a0 hw [] v14 b15 b16 b17 b18 (0 : UInt64) (0 : UInt64) (0 : Int32) (0 : Int32) (0 : UInt64) v181 (0 : Int32) n182 h184 n0 Z0 V_b15 V_b16 V_b17 V_b18 (fun h => (own_fq (own_bn0 40) (by decide) h).nn) (fun h => (own_fq (own_bn0 40) (by decide) h).nn) P1.nn ((own_fpu (own_bn0 40) (by decide)).mul P1 (by decide)).nn ((own_fpu (own_bn0 40) (by decide)).mul P0 (by decide)).nn) eH185 (by rw [hml]; rfl) (argsL := [(.int (0 : Int32)), (.double v14), (.ref b15), (.ref b16), (.ref b17), (.ref b18)]) rfl (lenOf pd_5 rfl) rfl at_208 (pc' := 211) rfl (by decide) (W := 1) (Nat.le_of_eq rfl) (by decide) (by decide) (by decide) (fun T187 h187 Lc187 v187r X187 eH187 hQ187 => ?_)
          obtain ⟨rfl, Nq187, rfl⟩ := hQ187
          have N187 := Fr.app N185 Nq187
          dsimp only [Option.toList, List.cons_append, List.nil_append]
          generalize q_r188 : (if dle (FP.dmul (if 0 < (0 : Int32) then (FP.ddiv (0 : UInt64) (FP.i2d (0 : Int32))) else (4607182418800017408 : UInt64)) (FP.dsub (4607182418800017408 : UInt64) v14)) (FP.dmul (if 0 < (0 : Int32) then (FP.ddiv (0 : UInt64) (FP.i2d (0 : Int32))) else (4607182418800017408 : UInt64)) v14) then (1 : Int32) else (0 : Int32)) = r188
          have hk189 : r186 = r188 := q_r186.symm.trans q_r188
          refine own_icF X187 hx hby at_211 (own_ic_ne_p hk189) (pc' := 214) rfl ?_
          refine own_aload X187 hx hby rfl rfl at_214 (pc' := 216) rfl ?_
          refine own_iconst X187 hx hby (v := (1 : Int32)) (by decide) at_216 (pc' := 217) rfl ?_
          refine own_dload X187 hx hby rfl at_217 (pc' := 219) rfl ?_
          refine own_virtual X187 hx hby hZ (y := (⟨"com/example/bidfold/bidfold/Branching", "leansIn", "(ID)Z"⟩ : MethodName)) (y' := (⟨"com/example/bidfold/bidfold/Branching", "leansIn", "(ID)Z"⟩ : MethodName)) (C := "com/example/bidfold/bidfold/Branching") (rest := []) hown (hw _ (List.mem_of_getElem? (i := 42) rfl)) (hw _ (List.mem_of_getElem? (i := 43) rfl)) (notFace_of_selects (args := #[]) (mvT hZ (hw _ (List.mem_of_getElem? (i := 45) rfl)))) (hw _ (List.mem_of_getElem? (i := 45) rfl)) (hw _ (List.mem_of_getElem? (i := 44) rfl)) (hw _ (List.mem_of_getElem? (i := 46) rfl)) (hw _ (List.mem_of_getElem? (i := 10) rfl)) (by decide) (rm51 l Z a0 hw [] b19 v14 b8_20 b10_20 (0 : UInt64) (0 : UInt64) (0 : Int32) (0 : Int32) b4_20 b6_20 (0 : UInt64) v181 (0 : Int32) n182 h184 n0 Z0 F_b19_upFalls F_b19_upCounts V_b8_20 V_b10_20 F_b19_downFalls F_b19_downCounts V_b4_20 V_b6_20 (fun h => (own_fq (own_bn0 40) (by decide) h).nn) P1.nn ((own_fpu (own_bn0 40) (by decide)).mul P1 (by decide)).nn (fun h => (own_fq B_v181 (by decide) h).nn) ((own_fpu B_v181 (by decide)).mul P0 (by decide)).nn) eH187 (by rw [hml]; rfl) (a := b19) E_b19 (argsL := [(.int (1 : Int32)), (.double v14)]) rfl (lenOf pd_4 rfl) rfl at_219 (pc' := 222) rfl (by decide) (W := 0) (Nat.le_of_eq rfl) (by decide) (by decide) (by decide) (fun T190 h190 Lc190 v190r X190 eH190 hQ190 => ?_)
          obtain ⟨rfl, Nq190, rfl⟩ := hQ190
          have N190 := Fr.app N187 Nq190
          dsimp only [Option.toList, List.cons_append, List.nil_append]
          generalize q_r191 : (if dle (FP.dmul (if 0 < (0 : Int32) then (FP.ddiv (0 : UInt64) (FP.i2d (0 : Int32))) else (4607182418800017408 : UInt64)) (FP.dsub (4607182418800017408 : UInt64) v14)) (FP.dmul (if 0 < n182 then (FP.ddiv v181 (FP.i2d n182)) else (4607182418800017408 : UInt64)) v14) then (1 : Int32) else (0 : Int32)) = r191
          refine own_iconst X190 hx hby (v := (1 : Int32)) (by decide) at_222 (pc' := 223) rfl ?_
          refine own_dload X190 hx hby rfl at_223 (pc' := 225) rfl ?_
          refine own_aload X190 hx hby rfl rfl at_225 (pc' := 227) rfl ?_
          refine own_aload X190 hx hby rfl rfl at_227 (pc' := 229) rfl ?_
          refine own_aload X190 hx hby rfl rfl at_229 (pc' := 231) rfl ?_
          refine own_aload X190 hx hby rfl rfl at_231 (pc' := 233) rfl ?_
          refine own_static X190 hx hby hZ (y := (⟨"com/example/bidfold/bidfold/BranchingLearnPinLaw", "expect", "(ID[D[I[D[I)Z"⟩ : MethodName)) (rest := [(.int r191)]) hown (hw _ (List.mem_of_getElem? (i := 50) rfl)) (hw _ (List.mem_of_getElem? (i := 51) rfl)) (hw _ (List.mem_of_getElem? (i := 52) rfl)) (hw _ (List.mem_of_getElem? (i := 39) rfl)) (by decide) (rm71 l Z a0 hw [] v14 b15 b16 b17 b18 (0 : UInt64) (0 : UInt64) (0 : Int32) (0 : Int32) (0 : UInt64) v181 (0 : Int32) n182 h184 n0 Z0 V_b15 V_b16 V_b17 V_b18 (fun h => (own_fq (own_bn0 40) (by decide) h).nn) (fun h => (own_fq B_v181 (by decide) h).nn) P1.nn ((own_fpu (own_bn0 40) (by decide)).mul P1 (by decide)).nn ((own_fpu B_v181 (by decide)).mul P0 (by decide)).nn) eH190 (by rw [hml]; rfl) (argsL := [(.int (1 : Int32)), (.double v14), (.ref b15), (.ref b16), (.ref b17), (.ref b18)]) rfl (lenOf pd_5 rfl) rfl at_233 (pc' := 236) rfl (by decide) (W := 1) (Nat.le_of_eq rfl) (by decide) (by decide) (by decide) (fun T192 h192 Lc192 v192r X192 eH192 hQ192 => ?_)
          obtain ⟨rfl, Nq192, rfl⟩ := hQ192
          have N192 := Fr.app N190 Nq192
          dsimp only [Option.toList, List.cons_append, List.nil_append]
          generalize q_r193 : (if dle (FP.dmul (if 0 < (0 : Int32) then (FP.ddiv (0 : UInt64) (FP.i2d (0 : Int32))) else (4607182418800017408 : UInt64)) (FP.dsub (4607182418800017408 : UInt64) v14)) (FP.dmul (if 0 < n182 then (FP.ddiv v181 (FP.i2d n182)) else (4607182418800017408 : UInt64)) v14) then (1 : Int32) else (0 : Int32)) = r193
          have hk194 : r191 = r193 := q_r191.symm.trans q_r193
          refine own_icF X192 hx hby at_236 (own_ic_ne_p hk194) (pc' := 239) rfl ?_
          refine own_iconst X192 hx hby (v := (1 : Int32)) (by decide) at_239 (pc' := 240) rfl ?_
          refine own_goto X192 hx hby at_240 (by decide) (pc' := 244) (by decide) ?_
          exact own_retZ X192 hx hby Bd.notSynchronized Bd.returns (Or.inr rfl) at_244 (by decide) (by decide) eH192 ⟨rfl, N192⟩
        · refine own_iload X147 hx hby rfl at_140 (pc' := 142) rfl ?_
          refine own_iload X147 hx hby rfl at_142 (pc' := 144) rfl ?_
          refine own_dload X147 hx hby rfl at_144 (pc' := 146) rfl ?_
          refine own_dload X147 hx hby rfl at_146 (pc' := 148) rfl ?_
          refine own_virtual X147 hx hby hZ (y := (⟨"com/example/bidfold/bidfold/Branching", "learn", "(IZDD)V"⟩ : MethodName)) (y' := (⟨"com/example/bidfold/bidfold/Branching", "learn", "(IZDD)V"⟩ : MethodName)) (C := "com/example/bidfold/bidfold/Branching") (rest := []) hown (hw _ (List.mem_of_getElem? (i := 31) rfl)) (hw _ (List.mem_of_getElem? (i := 32) rfl)) (notFace_of_selects (args := #[]) (mvT hZ (hw _ (List.mem_of_getElem? (i := 34) rfl)))) (hw _ (List.mem_of_getElem? (i := 34) rfl)) (hw _ (List.mem_of_getElem? (i := 33) rfl)) (hw _ (List.mem_of_getElem? (i := 35) rfl)) (hw _ (List.mem_of_getElem? (i := 10) rfl)) (by decide) (rm311 l Z a0 hw [] b19 v11 v12 b8_20 b10_20 (0 : UInt64) (0 : UInt64) (0 : Int32) (0 : Int32) h147 n0 Z0 F_b19_upFalls F_b19_upCounts V_b8_20 V_b10_20 (fun h1 h2 => (own_lu D_v11 D_v12 (own_fr _) (own_bn0 40) (by decide) h1 h2).1) (fun h1 h2 => (own_lu D_v11 D_v12 (own_fr _) (own_bn0 40) (by decide) h1 h2).2.1) (fun h1 h2 => (own_lu D_v11 D_v12 (own_fr _) (own_bn0 40) (by decide) h1 h2).2.2.1) g_b8_20 ne_b19_b8_20 (Ne.symm ne_b8_20_b10_20) g_b10_20 ne_b19_b10_20) eH147 (by rw [hml]; rfl) (a := b19) E_b19 (argsL := [(.int (1 : Int32)), (.int (1 : Int32)), (.double v11), (.double v12)]) rfl (lenOf pd_2 rfl) rfl at_148 (pc' := 151) rfl (by decide) (W := 0) (Nat.le_of_eq rfl) (by decide) (by decide) (by decide) (fun T195 h195 Lc195 v195r X195 eH195 hQ195 => ?_)
          obtain ⟨rfl, Nq195, Kq195, gq195_0, gq195_1⟩ := hQ195
          have N195 := Fr.app N147 Nq195
          replace E_b15 := E_b15.keep Kq195
          replace V_b15 := V_b15.keep Kq195 (ninS ne_b15_b8_20 (ninS ne_b15_b10_20 nin0))
          replace E_b16 := E_b16.keep Kq195
          replace V_b16 := V_b16.keep Kq195 (ninS ne_b16_b8_20 (ninS ne_b16_b10_20 nin0))
          replace E_b17 := E_b17.keep Kq195
          replace V_b17 := V_b17.keep Kq195 (ninS ne_b17_b8_20 (ninS ne_b17_b10_20 nin0))
          replace E_b18 := E_b18.keep Kq195
          replace V_b18 := V_b18.keep Kq195 (ninS ne_b18_b8_20 (ninS ne_b18_b10_20 nin0))
          replace E_b19 := E_b19.keep Kq195
          replace F_b19_downFalls := F_b19_downFalls.keep Kq195 (ninS ne_b19_b8_20 (ninS ne_b19_b10_20 nin0))
          replace F_b19_downCounts := F_b19_downCounts.keep Kq195 (ninS ne_b19_b8_20 (ninS ne_b19_b10_20 nin0))
          replace F_b19_upFalls := F_b19_upFalls.keep Kq195 (ninS ne_b19_b8_20 (ninS ne_b19_b10_20 nin0))
          replace F_b19_upCounts := F_b19_upCounts.keep Kq195 (ninS ne_b19_b8_20 (ninS ne_b19_b10_20 nin0))
          replace E_b4_20 := E_b4_20.keep Kq195
          replace V_b4_20 := V_b4_20.keep Kq195 (ninS ne_b4_20_b8_20 (ninS ne_b4_20_b10_20 nin0))
          replace E_b6_20 := E_b6_20.keep Kq195
          replace V_b6_20 := V_b6_20.keep Kq195 (ninS ne_b6_20_b8_20 (ninS ne_b6_20_b10_20 nin0))
          replace E_b8_20 := E_b8_20.keep Kq195
          replace E_b10_20 := E_b10_20.keep Kq195
          obtain ⟨v196, q_v196⟩ : ∃ z : UInt64, (if dle v11 (4517329193108106637 : UInt64) then (0 : UInt64) else (if dge v11 (4607182409792818153 : UInt64) then (0 : UInt64) else (FP.dadd (0 : UInt64) (FP.ddiv v12 (FP.dsub (4607182418800017408 : UInt64) v11))))) = z := ⟨_, rfl⟩
          have V_b8_20 : Ary tr Z h195 b8_20 .double [(.double (0 : UInt64)), (.double v196)] := by rw [← q_v196]; exact gq195_0
          obtain ⟨n197, q_n197⟩ : ∃ z : Int32, (if dle v11 (4517329193108106637 : UInt64) then (0 : Int32) else (if dge v11 (4607182409792818153 : UInt64) then (0 : Int32) else ((0 : Int32) + (1 : Int32)))) = z := ⟨_, rfl⟩
          have V_b10_20 : Ary tr Z h195 b10_20 .int [(.int (0 : Int32)), (.int n197)] := by rw [← q_n197]; exact gq195_1
          replace Z0 := Nat.le_trans Z0 Kq195.1
          have B_v196 : Bn v196 41 := q_v196 ▸ own_tr (own_bn0 40) (fun h1 h2 => (own_lu D_v11 D_v12 (own_fr _) (own_bn0 40) (by decide) h1 h2).2.2.2)
          refine own_iload X195 hx hby rfl at_151 (pc' := 153) rfl ?_
          refine own_iload X195 hx hby rfl at_153 (pc' := 155) rfl ?_
          refine own_dload X195 hx hby rfl at_155 (pc' := 157) rfl ?_
          refine own_dload X195 hx hby rfl at_157 (pc' := 159) rfl ?_
          refine own_aload X195 hx hby rfl rfl at_159 (pc' := 161) rfl ?_
          refine own_aload X195 hx hby rfl rfl at_161 (pc' := 163) rfl ?_
          refine own_aload X195 hx hby rfl rfl at_163 (pc' := 165) rfl ?_
          refine own_aload X195 hx hby rfl rfl at_165 (pc' := 167) rfl ?_
          refine own_static X195 hx hby hZ (y := (⟨"com/example/bidfold/bidfold/BranchingLearnPinLaw", "model", "(IZDD[D[I[D[I)V"⟩ : MethodName)) (rest := []) hown (hw _ (List.mem_of_getElem? (i := 37) rfl)) (hw _ (List.mem_of_getElem? (i := 38) rfl)) (hw _ (List.mem_of_getElem? (i := 40) rfl)) (hw _ (List.mem_of_getElem? (i := 39) rfl)) (by decide) (rm410 l Z a0 hw [] v5 v6 b15 b16 b17 b18 (0 : UInt64) (0 : UInt64) (0 : Int32) (0 : Int32) h195 n0 Z0 V_b17 V_b18 (fun h1 h2 => (own_ld D_v5 D_v6 (own_fr _) (own_bn0 40) (by decide) h1 h2).1) (fun h1 h2 => (own_ld D_v5 D_v6 (own_fr _) (own_bn0 40) (by decide) h1 h2).2.1) g_b17 (Ne.symm ne_b17_b18) g_b18) eH195 (by rw [hml]; rfl) (argsL := [(.int (1 : Int32)), (.int (0 : Int32)), (.double v5), (.double v6), (.ref b15), (.ref b16), (.ref b17), (.ref b18)]) rfl (lenOf pd_3 rfl) rfl at_167 (pc' := 170) rfl (by decide) (W := 0) (Nat.le_of_eq rfl) (by decide) (by decide) (by decide) (fun T198 h198 Lc198 v198r X198 eH198 hQ198 => ?_)
          obtain ⟨rfl, Nq198, Kq198, gq198_0, gq198_1⟩ := hQ198
          have N198 := Fr.app N195 Nq198
          replace E_b15 := E_b15.keep Kq198
          replace V_b15 := V_b15.keep Kq198 (ninS ne_b15_b17 (ninS ne_b15_b18 nin0))
          replace E_b16 := E_b16.keep Kq198
          replace V_b16 := V_b16.keep Kq198 (ninS ne_b16_b17 (ninS ne_b16_b18 nin0))
          replace E_b17 := E_b17.keep Kq198
          replace E_b18 := E_b18.keep Kq198
          replace E_b19 := E_b19.keep Kq198
          replace F_b19_downFalls := F_b19_downFalls.keep Kq198 (ninS (Ne.symm ne_b17_b19) (ninS (Ne.symm ne_b18_b19) nin0))
          replace F_b19_downCounts := F_b19_downCounts.keep Kq198 (ninS (Ne.symm ne_b17_b19) (ninS (Ne.symm ne_b18_b19) nin0))
          replace F_b19_upFalls := F_b19_upFalls.keep Kq198 (ninS (Ne.symm ne_b17_b19) (ninS (Ne.symm ne_b18_b19) nin0))
          replace F_b19_upCounts := F_b19_upCounts.keep Kq198 (ninS (Ne.symm ne_b17_b19) (ninS (Ne.symm ne_b18_b19) nin0))
          replace E_b4_20 := E_b4_20.keep Kq198
          replace V_b4_20 := V_b4_20.keep Kq198 (ninS (Ne.symm ne_b17_b4_20) (ninS (Ne.symm ne_b18_b4_20) nin0))
          replace E_b6_20 := E_b6_20.keep Kq198
          replace V_b6_20 := V_b6_20.keep Kq198 (ninS (Ne.symm ne_b17_b6_20) (ninS (Ne.symm ne_b18_b6_20) nin0))
          replace E_b8_20 := E_b8_20.keep Kq198
          replace V_b8_20 := V_b8_20.keep Kq198 (ninS (Ne.symm ne_b17_b8_20) (ninS (Ne.symm ne_b18_b8_20) nin0))
          replace E_b10_20 := E_b10_20.keep Kq198
          replace V_b10_20 := V_b10_20.keep Kq198 (ninS (Ne.symm ne_b17_b10_20) (ninS (Ne.symm ne_b18_b10_20) nin0))
          have V_b17 : Ary tr Z h198 b17 .double [(.double (0 : UInt64)), (.double v148)] := by rw [← q_v148]; exact gq198_0
          have V_b18 : Ary tr Z h198 b18 .int [(.int (0 : Int32)), (.int n149)] := by rw [← q_n149]; exact gq198_1
          replace Z0 := Nat.le_trans Z0 Kq198.1
          refine own_iload X198 hx hby rfl at_170 (pc' := 172) rfl ?_
          refine own_iload X198 hx hby rfl at_172 (pc' := 174) rfl ?_
          refine own_dload X198 hx hby rfl at_174 (pc' := 176) rfl ?_
          refine own_dload X198 hx hby rfl at_176 (pc' := 178) rfl ?_
          refine own_aload X198 hx hby rfl rfl at_178 (pc' := 180) rfl ?_
          refine own_aload X198 hx hby rfl rfl at_180 (pc' := 182) rfl ?_
          refine own_aload X198 hx hby rfl rfl at_182 (pc' := 184) rfl ?_
          refine own_aload X198 hx hby rfl rfl at_184 (pc' := 186) rfl ?_
          refine own_static X198 hx hby hZ (y := (⟨"com/example/bidfold/bidfold/BranchingLearnPinLaw", "model", "(IZDD[D[I[D[I)V"⟩ : MethodName)) (rest := []) hown (hw _ (List.mem_of_getElem? (i := 37) rfl)) (hw _ (List.mem_of_getElem? (i := 38) rfl)) (hw _ (List.mem_of_getElem? (i := 40) rfl)) (hw _ (List.mem_of_getElem? (i := 39) rfl)) (by decide) (rm411 l Z a0 hw [] v11 v12 b15 b16 b17 b18 (0 : UInt64) (0 : UInt64) (0 : Int32) (0 : Int32) h198 n0 Z0 V_b15 V_b16 (fun h1 h2 => (own_lu D_v11 D_v12 (own_fr _) (own_bn0 40) (by decide) h1 h2).1) (fun h1 h2 => (own_lu D_v11 D_v12 (own_fr _) (own_bn0 40) (by decide) h1 h2).2.1) (fun h1 h2 => (own_lu D_v11 D_v12 (own_fr _) (own_bn0 40) (by decide) h1 h2).2.2.1) g_b15 (Ne.symm ne_b15_b16) g_b16) eH198 (by rw [hml]; rfl) (argsL := [(.int (1 : Int32)), (.int (1 : Int32)), (.double v11), (.double v12), (.ref b15), (.ref b16), (.ref b17), (.ref b18)]) rfl (lenOf pd_3 rfl) rfl at_186 (pc' := 189) rfl (by decide) (W := 0) (Nat.le_of_eq rfl) (by decide) (by decide) (by decide) (fun T199 h199 Lc199 v199r X199 eH199 hQ199 => ?_)
          obtain ⟨rfl, Nq199, Kq199, gq199_0, gq199_1⟩ := hQ199
          have N199 := Fr.app N198 Nq199
          replace E_b15 := E_b15.keep Kq199
          replace E_b16 := E_b16.keep Kq199
          replace E_b17 := E_b17.keep Kq199
          replace V_b17 := V_b17.keep Kq199 (ninS (Ne.symm ne_b15_b17) (ninS (Ne.symm ne_b16_b17) nin0))
          replace E_b18 := E_b18.keep Kq199
          replace V_b18 := V_b18.keep Kq199 (ninS (Ne.symm ne_b15_b18) (ninS (Ne.symm ne_b16_b18) nin0))
          replace E_b19 := E_b19.keep Kq199
          replace F_b19_downFalls := F_b19_downFalls.keep Kq199 (ninS (Ne.symm ne_b15_b19) (ninS (Ne.symm ne_b16_b19) nin0))
          replace F_b19_downCounts := F_b19_downCounts.keep Kq199 (ninS (Ne.symm ne_b15_b19) (ninS (Ne.symm ne_b16_b19) nin0))
          replace F_b19_upFalls := F_b19_upFalls.keep Kq199 (ninS (Ne.symm ne_b15_b19) (ninS (Ne.symm ne_b16_b19) nin0))
          replace F_b19_upCounts := F_b19_upCounts.keep Kq199 (ninS (Ne.symm ne_b15_b19) (ninS (Ne.symm ne_b16_b19) nin0))
          replace E_b4_20 := E_b4_20.keep Kq199
          replace V_b4_20 := V_b4_20.keep Kq199 (ninS (Ne.symm ne_b15_b4_20) (ninS (Ne.symm ne_b16_b4_20) nin0))
          replace E_b6_20 := E_b6_20.keep Kq199
          replace V_b6_20 := V_b6_20.keep Kq199 (ninS (Ne.symm ne_b15_b6_20) (ninS (Ne.symm ne_b16_b6_20) nin0))
          replace E_b8_20 := E_b8_20.keep Kq199
          replace V_b8_20 := V_b8_20.keep Kq199 (ninS (Ne.symm ne_b15_b8_20) (ninS (Ne.symm ne_b16_b8_20) nin0))
          replace E_b10_20 := E_b10_20.keep Kq199
          replace V_b10_20 := V_b10_20.keep Kq199 (ninS (Ne.symm ne_b15_b10_20) (ninS (Ne.symm ne_b16_b10_20) nin0))
          have V_b15 : Ary tr Z h199 b15 .double [(.double (0 : UInt64)), (.double v196)] := by rw [← q_v196]; exact gq199_0
          have V_b16 : Ary tr Z h199 b16 .int [(.int (0 : Int32)), (.int n197)] := by rw [← q_n197]; exact gq199_1
          replace Z0 := Nat.le_trans Z0 Kq199.1
          refine own_aload X199 hx hby rfl rfl at_189 (pc' := 191) rfl ?_
          refine own_iconst X199 hx hby (v := (0 : Int32)) (by decide) at_191 (pc' := 192) rfl ?_
          refine own_dload X199 hx hby rfl at_192 (pc' := 194) rfl ?_
          refine own_virtual X199 hx hby hZ (y := (⟨"com/example/bidfold/bidfold/Branching", "leansIn", "(ID)Z"⟩ : MethodName)) (y' := (⟨"com/example/bidfold/bidfold/Branching", "leansIn", "(ID)Z"⟩ : MethodName)) (C := "com/example/bidfold/bidfold/Branching") (rest := []) hown (hw _ (List.mem_of_getElem? (i := 42) rfl)) (hw _ (List.mem_of_getElem? (i := 43) rfl)) (notFace_of_selects (args := #[]) (mvT hZ (hw _ (List.mem_of_getElem? (i := 45) rfl)))) (hw _ (List.mem_of_getElem? (i := 45) rfl)) (hw _ (List.mem_of_getElem? (i := 44) rfl)) (hw _ (List.mem_of_getElem? (i := 46) rfl)) (hw _ (List.mem_of_getElem? (i := 10) rfl)) (by decide) (rm50 l Z a0 hw [] b19 v14 b8_20 b10_20 (0 : UInt64) v196 (0 : Int32) n197 b4_20 b6_20 (0 : UInt64) v148 (0 : Int32) n149 h199 n0 Z0 F_b19_upFalls F_b19_upCounts V_b8_20 V_b10_20 F_b19_downFalls F_b19_downCounts V_b4_20 V_b6_20 (fun h => (own_fq (own_bn0 40) (by decide) h).nn) P1.nn ((own_fpu (own_bn0 40) (by decide)).mul P1 (by decide)).nn (fun h => (own_fq (own_bn0 40) (by decide) h).nn) ((own_fpu (own_bn0 40) (by decide)).mul P0 (by decide)).nn) eH199 (by rw [hml]; rfl) (a := b19) E_b19 (argsL := [(.int (0 : Int32)), (.double v14)]) rfl (lenOf pd_4 rfl) rfl at_194 (pc' := 197) rfl (by decide) (W := 0) (Nat.le_of_eq rfl) (by decide) (by decide) (by decide) (fun T200 h200 Lc200 v200r X200 eH200 hQ200 => ?_)
          obtain ⟨rfl, Nq200, rfl⟩ := hQ200
          have N200 := Fr.app N199 Nq200
          dsimp only [Option.toList, List.cons_append, List.nil_append]
          generalize q_r201 : (if dle (FP.dmul (if 0 < (0 : Int32) then (FP.ddiv (0 : UInt64) (FP.i2d (0 : Int32))) else (4607182418800017408 : UInt64)) (FP.dsub (4607182418800017408 : UInt64) v14)) (FP.dmul (if 0 < (0 : Int32) then (FP.ddiv (0 : UInt64) (FP.i2d (0 : Int32))) else (4607182418800017408 : UInt64)) v14) then (1 : Int32) else (0 : Int32)) = r201
          refine own_iconst X200 hx hby (v := (0 : Int32)) (by decide) at_197 (pc' := 198) rfl ?_
          refine own_dload X200 hx hby rfl at_198 (pc' := 200) rfl ?_
          refine own_aload X200 hx hby rfl rfl at_200 (pc' := 202) rfl ?_
          refine own_aload X200 hx hby rfl rfl at_202 (pc' := 204) rfl ?_
          refine own_aload X200 hx hby rfl rfl at_204 (pc' := 206) rfl ?_
          refine own_aload X200 hx hby rfl rfl at_206 (pc' := 208) rfl ?_
          refine own_static X200 hx hby hZ (y := (⟨"com/example/bidfold/bidfold/BranchingLearnPinLaw", "expect", "(ID[D[I[D[I)Z"⟩ : MethodName)) (rest := [(.int r201)]) hown (hw _ (List.mem_of_getElem? (i := 50) rfl)) (hw _ (List.mem_of_getElem? (i := 51) rfl)) (hw _ (List.mem_of_getElem? (i := 52) rfl)) (hw _ (List.mem_of_getElem? (i := 39) rfl)) (by decide) (rm70 l Z a0 hw [] v14 b15 b16 b17 b18 (0 : UInt64) v196 (0 : Int32) n197 (0 : UInt64) v148 (0 : Int32) n149 h199 n0 Z0 V_b15 V_b16 V_b17 V_b18 (fun h => (own_fq (own_bn0 40) (by decide) h).nn) (fun h => (own_fq (own_bn0 40) (by decide) h).nn) P1.nn ((own_fpu (own_bn0 40) (by decide)).mul P1 (by decide)).nn ((own_fpu (own_bn0 40) (by decide)).mul P0 (by decide)).nn) eH200 (by rw [hml]; rfl) (argsL := [(.int (0 : Int32)), (.double v14), (.ref b15), (.ref b16), (.ref b17), (.ref b18)]) rfl (lenOf pd_5 rfl) rfl at_208 (pc' := 211) rfl (by decide) (W := 1) (Nat.le_of_eq rfl) (by decide) (by decide) (by decide) (fun T202 h202 Lc202 v202r X202 eH202 hQ202 => ?_)
          obtain ⟨rfl, Nq202, rfl⟩ := hQ202
          have N202 := Fr.app N200 Nq202
          dsimp only [Option.toList, List.cons_append, List.nil_append]
          generalize q_r203 : (if dle (FP.dmul (if 0 < (0 : Int32) then (FP.ddiv (0 : UInt64) (FP.i2d (0 : Int32))) else (4607182418800017408 : UInt64)) (FP.dsub (4607182418800017408 : UInt64) v14)) (FP.dmul (if 0 < (0 : Int32) then (FP.ddiv (0 : UInt64) (FP.i2d (0 : Int32))) else (4607182418800017408 : UInt64)) v14) then (1 : Int32) else (0 : Int32)) = r203
          have hk204 : r201 = r203 := q_r201.symm.trans q_r203
          refine own_icF X202 hx hby at_211 (own_ic_ne_p hk204) (pc' := 214) rfl ?_
          refine own_aload X202 hx hby rfl rfl at_214 (pc' := 216) rfl ?_
          refine own_iconst X202 hx hby (v := (1 : Int32)) (by decide) at_216 (pc' := 217) rfl ?_
          refine own_dload X202 hx hby rfl at_217 (pc' := 219) rfl ?_
          refine own_virtual X202 hx hby hZ (y := (⟨"com/example/bidfold/bidfold/Branching", "leansIn", "(ID)Z"⟩ : MethodName)) (y' := (⟨"com/example/bidfold/bidfold/Branching", "leansIn", "(ID)Z"⟩ : MethodName)) (C := "com/example/bidfold/bidfold/Branching") (rest := []) hown (hw _ (List.mem_of_getElem? (i := 42) rfl)) (hw _ (List.mem_of_getElem? (i := 43) rfl)) (notFace_of_selects (args := #[]) (mvT hZ (hw _ (List.mem_of_getElem? (i := 45) rfl)))) (hw _ (List.mem_of_getElem? (i := 45) rfl)) (hw _ (List.mem_of_getElem? (i := 44) rfl)) (hw _ (List.mem_of_getElem? (i := 46) rfl)) (hw _ (List.mem_of_getElem? (i := 10) rfl)) (by decide) (rm51 l Z a0 hw [] b19 v14 b8_20 b10_20 (0 : UInt64) v196 (0 : Int32) n197 b4_20 b6_20 (0 : UInt64) v148 (0 : Int32) n149 h199 n0 Z0 F_b19_upFalls F_b19_upCounts V_b8_20 V_b10_20 F_b19_downFalls F_b19_downCounts V_b4_20 V_b6_20 (fun h => (own_fq B_v196 (by decide) h).nn) P1.nn ((own_fpu B_v196 (by decide)).mul P1 (by decide)).nn (fun h => (own_fq B_v148 (by decide) h).nn) ((own_fpu B_v148 (by decide)).mul P0 (by decide)).nn) eH202 (by rw [hml]; rfl) (a := b19) E_b19 (argsL := [(.int (1 : Int32)), (.double v14)]) rfl (lenOf pd_4 rfl) rfl at_219 (pc' := 222) rfl (by decide) (W := 0) (Nat.le_of_eq rfl) (by decide) (by decide) (by decide) (fun T205 h205 Lc205 v205r X205 eH205 hQ205 => ?_)
          obtain ⟨rfl, Nq205, rfl⟩ := hQ205
          have N205 := Fr.app N202 Nq205
          dsimp only [Option.toList, List.cons_append, List.nil_append]
          generalize q_r206 : (if dle (FP.dmul (if 0 < n197 then (FP.ddiv v196 (FP.i2d n197)) else (4607182418800017408 : UInt64)) (FP.dsub (4607182418800017408 : UInt64) v14)) (FP.dmul (if 0 < n149 then (FP.ddiv v148 (FP.i2d n149)) else (4607182418800017408 : UInt64)) v14) then (1 : Int32) else (0 : Int32)) = r206
          refine own_iconst X205 hx hby (v := (1 : Int32)) (by decide) at_222 (pc' := 223) rfl ?_
          refine own_dload X205 hx hby rfl at_223 (pc' := 225) rfl ?_
          refine own_aload X205 hx hby rfl rfl at_225 (pc' := 227) rfl ?_
          refine own_aload X205 hx hby rfl rfl at_227 (pc' := 229) rfl ?_
          refine own_aload X205 hx hby rfl rfl at_229 (pc' := 231) rfl ?_
          refine own_aload X205 hx hby rfl rfl at_231 (pc' := 233) rfl ?_
          refine own_static X205 hx hby hZ (y := (⟨"com/example/bidfold/bidfold/BranchingLearnPinLaw", "expect", "(ID[D[I[D[I)Z"⟩ : MethodName)) (rest := [(.int r206)]) hown (hw _ (List.mem_of_getElem? (i := 50) rfl)) (hw _ (List.mem_of_getElem? (i := 51) rfl)) (hw _ (List.mem_of_getElem? (i := 52) rfl)) (hw _ (List.mem_of_getElem? (i := 39) rfl)) (by decide) (rm71 l Z a0 hw [] v14 b15 b16 b17 b18 (0 : UInt64) v196 (0 : Int32) n197 (0 : UInt64) v148 (0 : Int32) n149 h199 n0 Z0 V_b15 V_b16 V_b17 V_b18 (fun h => (own_fq B_v196 (by decide) h).nn) (fun h => (own_fq B_v148 (by decide) h).nn) P1.nn ((own_fpu B_v196 (by decide)).mul P1 (by decide)).nn ((own_fpu B_v148 (by decide)).mul P0 (by decide)).nn) eH205 (by rw [hml]; rfl) (argsL := [(.int (1 : Int32)), (.double v14), (.ref b15), (.ref b16), (.ref b17), (.ref b18)]) rfl (lenOf pd_5 rfl) rfl at_233 (pc' := 236) rfl (by decide) (W := 1) (Nat.le_of_eq rfl) (by decide) (by decide) (by decide) (fun T207 h207 Lc207 v207r X207 eH207 hQ207 => ?_)
          obtain ⟨rfl, Nq207, rfl⟩ := hQ207
          have N207 := Fr.app N205 Nq207
          dsimp only [Option.toList, List.cons_append, List.nil_append]
          generalize q_r208 : (if dle (FP.dmul (if 0 < n197 then (FP.ddiv v196 (FP.i2d n197)) else (4607182418800017408 : UInt64)) (FP.dsub (4607182418800017408 : UInt64) v14)) (FP.dmul (if 0 < n149 then (FP.ddiv v148 (FP.i2d n149)) else (4607182418800017408 : UInt64)) v14) then (1 : Int32) else (0 : Int32)) = r208
          have hk209 : r206 = r208 := q_r206.symm.trans q_r208
          refine own_icF X207 hx hby at_236 (own_ic_ne_p hk209) (pc' := 239) rfl ?_
          refine own_iconst X207 hx hby (v := (1 : Int32)) (by decide) at_239 (pc' := 240) rfl ?_
          refine own_goto X207 hx hby at_240 (by decide) (pc' := 244) (by decide) ?_
          exact own_retZ X207 hx hby Bd.notSynchronized Bd.returns (Or.inr rfl) at_244 (by decide) (by decide) eH207 ⟨rfl, N207⟩
    · refine own_iload X20 hx hby rfl at_127 (pc' := 129) rfl ?_
      refine own_iload X20 hx hby rfl at_129 (pc' := 131) rfl ?_
      refine own_dload X20 hx hby rfl at_131 (pc' := 133) rfl ?_
      refine own_dload X20 hx hby rfl at_133 (pc' := 135) rfl ?_
      refine own_virtual X20 hx hby hZ (y := (⟨"com/example/bidfold/bidfold/Branching", "learn", "(IZDD)V"⟩ : MethodName)) (y' := (⟨"com/example/bidfold/bidfold/Branching", "learn", "(IZDD)V"⟩ : MethodName)) (C := "com/example/bidfold/bidfold/Branching") (rest := []) hown (hw _ (List.mem_of_getElem? (i := 31) rfl)) (hw _ (List.mem_of_getElem? (i := 32) rfl)) (notFace_of_selects (args := #[]) (mvT hZ (hw _ (List.mem_of_getElem? (i := 34) rfl)))) (hw _ (List.mem_of_getElem? (i := 34) rfl)) (hw _ (List.mem_of_getElem? (i := 33) rfl)) (hw _ (List.mem_of_getElem? (i := 35) rfl)) (hw _ (List.mem_of_getElem? (i := 10) rfl)) (by decide) (rm311 l Z a0 hw [] b19 v5 v6 b8_20 b10_20 (0 : UInt64) (0 : UInt64) (0 : Int32) (0 : Int32) h20 n0 Z0 F_b19_upFalls F_b19_upCounts V_b8_20 V_b10_20 (fun h1 h2 => (own_lu D_v5 D_v6 (own_fr _) (own_bn0 40) (by decide) h1 h2).1) (fun h1 h2 => (own_lu D_v5 D_v6 (own_fr _) (own_bn0 40) (by decide) h1 h2).2.1) (fun h1 h2 => (own_lu D_v5 D_v6 (own_fr _) (own_bn0 40) (by decide) h1 h2).2.2.1) g_b8_20 ne_b19_b8_20 (Ne.symm ne_b8_20_b10_20) g_b10_20 ne_b19_b10_20) eH20 (by rw [hml]; rfl) (a := b19) E_b19 (argsL := [(.int (1 : Int32)), (.int (1 : Int32)), (.double v5), (.double v6)]) rfl (lenOf pd_2 rfl) rfl at_135 (pc' := 138) rfl (by decide) (W := 0) (Nat.le_of_eq rfl) (by decide) (by decide) (by decide) (fun T210 h210 Lc210 v210r X210 eH210 hQ210 => ?_)
      obtain ⟨rfl, Nq210, Kq210, gq210_0, gq210_1⟩ := hQ210
      have N210 := Fr.app N20 Nq210
      replace E_b15 := E_b15.keep Kq210
      replace V_b15 := V_b15.keep Kq210 (ninS ne_b15_b8_20 (ninS ne_b15_b10_20 nin0))
      replace E_b16 := E_b16.keep Kq210
      replace V_b16 := V_b16.keep Kq210 (ninS ne_b16_b8_20 (ninS ne_b16_b10_20 nin0))
      replace E_b17 := E_b17.keep Kq210
      replace V_b17 := V_b17.keep Kq210 (ninS ne_b17_b8_20 (ninS ne_b17_b10_20 nin0))
      replace E_b18 := E_b18.keep Kq210
      replace V_b18 := V_b18.keep Kq210 (ninS ne_b18_b8_20 (ninS ne_b18_b10_20 nin0))
      replace E_b19 := E_b19.keep Kq210
      replace F_b19_downFalls := F_b19_downFalls.keep Kq210 (ninS ne_b19_b8_20 (ninS ne_b19_b10_20 nin0))
      replace F_b19_downCounts := F_b19_downCounts.keep Kq210 (ninS ne_b19_b8_20 (ninS ne_b19_b10_20 nin0))
      replace F_b19_upFalls := F_b19_upFalls.keep Kq210 (ninS ne_b19_b8_20 (ninS ne_b19_b10_20 nin0))
      replace F_b19_upCounts := F_b19_upCounts.keep Kq210 (ninS ne_b19_b8_20 (ninS ne_b19_b10_20 nin0))
      replace E_b4_20 := E_b4_20.keep Kq210
      replace V_b4_20 := V_b4_20.keep Kq210 (ninS ne_b4_20_b8_20 (ninS ne_b4_20_b10_20 nin0))
      replace E_b6_20 := E_b6_20.keep Kq210
      replace V_b6_20 := V_b6_20.keep Kq210 (ninS ne_b6_20_b8_20 (ninS ne_b6_20_b10_20 nin0))
      replace E_b8_20 := E_b8_20.keep Kq210
      replace E_b10_20 := E_b10_20.keep Kq210
      obtain ⟨v211, q_v211⟩ : ∃ z : UInt64, (if dle v5 (4517329193108106637 : UInt64) then (0 : UInt64) else (if dge v5 (4607182409792818153 : UInt64) then (0 : UInt64) else (FP.dadd (0 : UInt64) (FP.ddiv v6 (FP.dsub (4607182418800017408 : UInt64) v5))))) = z := ⟨_, rfl⟩
      have V_b8_20 : Ary tr Z h210 b8_20 .double [(.double (0 : UInt64)), (.double v211)] := by rw [← q_v211]; exact gq210_0
      obtain ⟨n212, q_n212⟩ : ∃ z : Int32, (if dle v5 (4517329193108106637 : UInt64) then (0 : Int32) else (if dge v5 (4607182409792818153 : UInt64) then (0 : Int32) else ((0 : Int32) + (1 : Int32)))) = z := ⟨_, rfl⟩
      have V_b10_20 : Ary tr Z h210 b10_20 .int [(.int (0 : Int32)), (.int n212)] := by rw [← q_n212]; exact gq210_1
      replace Z0 := Nat.le_trans Z0 Kq210.1
      have B_v211 : Bn v211 41 := q_v211 ▸ own_tr (own_bn0 40) (fun h1 h2 => (own_lu D_v5 D_v6 (own_fr _) (own_bn0 40) (by decide) h1 h2).2.2.2)
      rcases own_bit q_n7 with rfl | rfl
      · refine own_aload X210 hx hby rfl rfl at_138 (pc' := 140) rfl ?_
        rcases own_ite01 q_w8 with rfl | rfl
        · refine own_iload X210 hx hby rfl at_140 (pc' := 142) rfl ?_
          refine own_iload X210 hx hby rfl at_142 (pc' := 144) rfl ?_
          refine own_dload X210 hx hby rfl at_144 (pc' := 146) rfl ?_
          refine own_dload X210 hx hby rfl at_146 (pc' := 148) rfl ?_
          refine own_virtual X210 hx hby hZ (y := (⟨"com/example/bidfold/bidfold/Branching", "learn", "(IZDD)V"⟩ : MethodName)) (y' := (⟨"com/example/bidfold/bidfold/Branching", "learn", "(IZDD)V"⟩ : MethodName)) (C := "com/example/bidfold/bidfold/Branching") (rest := []) hown (hw _ (List.mem_of_getElem? (i := 31) rfl)) (hw _ (List.mem_of_getElem? (i := 32) rfl)) (notFace_of_selects (args := #[]) (mvT hZ (hw _ (List.mem_of_getElem? (i := 34) rfl)))) (hw _ (List.mem_of_getElem? (i := 34) rfl)) (hw _ (List.mem_of_getElem? (i := 33) rfl)) (hw _ (List.mem_of_getElem? (i := 35) rfl)) (hw _ (List.mem_of_getElem? (i := 10) rfl)) (by decide) (rm300 l Z a0 hw [] b19 v11 v12 b4_20 b6_20 (0 : UInt64) (0 : UInt64) (0 : Int32) (0 : Int32) h210 n0 Z0 F_b19_downFalls F_b19_downCounts V_b4_20 V_b6_20 (fun h1 h2 => (own_ld D_v11 D_v12 (own_fr _) (own_bn0 40) (by decide) h1 h2).1) (fun h1 h2 => (own_ld D_v11 D_v12 (own_fr _) (own_bn0 40) (by decide) h1 h2).2.1) g_b4_20 ne_b19_b4_20 (Ne.symm ne_b4_20_b6_20) g_b6_20 ne_b19_b6_20) eH210 (by rw [hml]; rfl) (a := b19) E_b19 (argsL := [(.int (0 : Int32)), (.int (0 : Int32)), (.double v11), (.double v12)]) rfl (lenOf pd_2 rfl) rfl at_148 (pc' := 151) rfl (by decide) (W := 0) (Nat.le_of_eq rfl) (by decide) (by decide) (by decide) (fun T213 h213 Lc213 v213r X213 eH213 hQ213 => ?_)
          obtain ⟨rfl, Nq213, Kq213, gq213_0, gq213_1⟩ := hQ213
          have N213 := Fr.app N210 Nq213
          replace E_b15 := E_b15.keep Kq213
          replace V_b15 := V_b15.keep Kq213 (ninS ne_b15_b4_20 (ninS ne_b15_b6_20 nin0))
          replace E_b16 := E_b16.keep Kq213
          replace V_b16 := V_b16.keep Kq213 (ninS ne_b16_b4_20 (ninS ne_b16_b6_20 nin0))
          replace E_b17 := E_b17.keep Kq213
          replace V_b17 := V_b17.keep Kq213 (ninS ne_b17_b4_20 (ninS ne_b17_b6_20 nin0))
          replace E_b18 := E_b18.keep Kq213
          replace V_b18 := V_b18.keep Kq213 (ninS ne_b18_b4_20 (ninS ne_b18_b6_20 nin0))
          replace E_b19 := E_b19.keep Kq213
          replace F_b19_downFalls := F_b19_downFalls.keep Kq213 (ninS ne_b19_b4_20 (ninS ne_b19_b6_20 nin0))
          replace F_b19_downCounts := F_b19_downCounts.keep Kq213 (ninS ne_b19_b4_20 (ninS ne_b19_b6_20 nin0))
          replace F_b19_upFalls := F_b19_upFalls.keep Kq213 (ninS ne_b19_b4_20 (ninS ne_b19_b6_20 nin0))
          replace F_b19_upCounts := F_b19_upCounts.keep Kq213 (ninS ne_b19_b4_20 (ninS ne_b19_b6_20 nin0))
          replace E_b4_20 := E_b4_20.keep Kq213
          replace E_b6_20 := E_b6_20.keep Kq213
          replace E_b8_20 := E_b8_20.keep Kq213
          replace V_b8_20 := V_b8_20.keep Kq213 (ninS (Ne.symm ne_b4_20_b8_20) (ninS (Ne.symm ne_b6_20_b8_20) nin0))
          replace E_b10_20 := E_b10_20.keep Kq213
          replace V_b10_20 := V_b10_20.keep Kq213 (ninS (Ne.symm ne_b4_20_b10_20) (ninS (Ne.symm ne_b6_20_b10_20) nin0))
          obtain ⟨v214, q_v214⟩ : ∃ z : UInt64, (if dle v11 (4517329193108106637 : UInt64) then (0 : UInt64) else (if dge v11 (4607182409792818153 : UInt64) then (0 : UInt64) else (FP.dadd (0 : UInt64) (FP.ddiv v12 v11)))) = z := ⟨_, rfl⟩
          have V_b4_20 : Ary tr Z h213 b4_20 .double [(.double v214), (.double (0 : UInt64))] := by rw [← q_v214]; exact gq213_0
          obtain ⟨n215, q_n215⟩ : ∃ z : Int32, (if dle v11 (4517329193108106637 : UInt64) then (0 : Int32) else (if dge v11 (4607182409792818153 : UInt64) then (0 : Int32) else ((0 : Int32) + (1 : Int32)))) = z := ⟨_, rfl⟩
          have V_b6_20 : Ary tr Z h213 b6_20 .int [(.int n215), (.int (0 : Int32))] := by rw [← q_n215]; exact gq213_1
          replace Z0 := Nat.le_trans Z0 Kq213.1
          have B_v214 : Bn v214 41 := q_v214 ▸ own_tr (own_bn0 40) (fun h1 h2 => (own_ld D_v11 D_v12 (own_fr _) (own_bn0 40) (by decide) h1 h2).2.2)
          refine own_iload X213 hx hby rfl at_151 (pc' := 153) rfl ?_
          refine own_iload X213 hx hby rfl at_153 (pc' := 155) rfl ?_
          refine own_dload X213 hx hby rfl at_155 (pc' := 157) rfl ?_
          refine own_dload X213 hx hby rfl at_157 (pc' := 159) rfl ?_
          refine own_aload X213 hx hby rfl rfl at_159 (pc' := 161) rfl ?_
          refine own_aload X213 hx hby rfl rfl at_161 (pc' := 163) rfl ?_
          refine own_aload X213 hx hby rfl rfl at_163 (pc' := 165) rfl ?_
          refine own_aload X213 hx hby rfl rfl at_165 (pc' := 167) rfl ?_
          refine own_static X213 hx hby hZ (y := (⟨"com/example/bidfold/bidfold/BranchingLearnPinLaw", "model", "(IZDD[D[I[D[I)V"⟩ : MethodName)) (rest := []) hown (hw _ (List.mem_of_getElem? (i := 37) rfl)) (hw _ (List.mem_of_getElem? (i := 38) rfl)) (hw _ (List.mem_of_getElem? (i := 40) rfl)) (hw _ (List.mem_of_getElem? (i := 39) rfl)) (by decide) (rm411 l Z a0 hw [] v5 v6 b15 b16 b17 b18 (0 : UInt64) (0 : UInt64) (0 : Int32) (0 : Int32) h213 n0 Z0 V_b15 V_b16 (fun h1 h2 => (own_lu D_v5 D_v6 (own_fr _) (own_bn0 40) (by decide) h1 h2).1) (fun h1 h2 => (own_lu D_v5 D_v6 (own_fr _) (own_bn0 40) (by decide) h1 h2).2.1) (fun h1 h2 => (own_lu D_v5 D_v6 (own_fr _) (own_bn0 40) (by decide) h1 h2).2.2.1) g_b15 (Ne.symm ne_b15_b16) g_b16) eH213 (by rw [hml]; rfl) (argsL := [(.int (1 : Int32)), (.int (1 : Int32)), (.double v5), (.double v6), (.ref b15), (.ref b16), (.ref b17), (.ref b18)]) rfl (lenOf pd_3 rfl) rfl at_167 (pc' := 170) rfl (by decide) (W := 0) (Nat.le_of_eq rfl) (by decide) (by decide) (by decide) (fun T216 h216 Lc216 v216r X216 eH216 hQ216 => ?_)
          obtain ⟨rfl, Nq216, Kq216, gq216_0, gq216_1⟩ := hQ216
          have N216 := Fr.app N213 Nq216
          replace E_b15 := E_b15.keep Kq216
          replace E_b16 := E_b16.keep Kq216
          replace E_b17 := E_b17.keep Kq216
          replace V_b17 := V_b17.keep Kq216 (ninS (Ne.symm ne_b15_b17) (ninS (Ne.symm ne_b16_b17) nin0))
          replace E_b18 := E_b18.keep Kq216
          replace V_b18 := V_b18.keep Kq216 (ninS (Ne.symm ne_b15_b18) (ninS (Ne.symm ne_b16_b18) nin0))
          replace E_b19 := E_b19.keep Kq216
          replace F_b19_downFalls := F_b19_downFalls.keep Kq216 (ninS (Ne.symm ne_b15_b19) (ninS (Ne.symm ne_b16_b19) nin0))
          replace F_b19_downCounts := F_b19_downCounts.keep Kq216 (ninS (Ne.symm ne_b15_b19) (ninS (Ne.symm ne_b16_b19) nin0))
          replace F_b19_upFalls := F_b19_upFalls.keep Kq216 (ninS (Ne.symm ne_b15_b19) (ninS (Ne.symm ne_b16_b19) nin0))
          replace F_b19_upCounts := F_b19_upCounts.keep Kq216 (ninS (Ne.symm ne_b15_b19) (ninS (Ne.symm ne_b16_b19) nin0))
          replace E_b4_20 := E_b4_20.keep Kq216
          replace V_b4_20 := V_b4_20.keep Kq216 (ninS (Ne.symm ne_b15_b4_20) (ninS (Ne.symm ne_b16_b4_20) nin0))
          replace E_b6_20 := E_b6_20.keep Kq216
          replace V_b6_20 := V_b6_20.keep Kq216 (ninS (Ne.symm ne_b15_b6_20) (ninS (Ne.symm ne_b16_b6_20) nin0))
          replace E_b8_20 := E_b8_20.keep Kq216
          replace V_b8_20 := V_b8_20.keep Kq216 (ninS (Ne.symm ne_b15_b8_20) (ninS (Ne.symm ne_b16_b8_20) nin0))
          replace E_b10_20 := E_b10_20.keep Kq216
          replace V_b10_20 := V_b10_20.keep Kq216 (ninS (Ne.symm ne_b15_b10_20) (ninS (Ne.symm ne_b16_b10_20) nin0))
          have V_b15 : Ary tr Z h216 b15 .double [(.double (0 : UInt64)), (.double v211)] := by rw [← q_v211]; exact gq216_0
          have V_b16 : Ary tr Z h216 b16 .int [(.int (0 : Int32)), (.int n212)] := by rw [← q_n212]; exact gq216_1
          replace Z0 := Nat.le_trans Z0 Kq216.1
          refine own_iload X216 hx hby rfl at_170 (pc' := 172) rfl ?_
          refine own_iload X216 hx hby rfl at_172 (pc' := 174) rfl ?_
          refine own_dload X216 hx hby rfl at_174 (pc' := 176) rfl ?_
          refine own_dload X216 hx hby rfl at_176 (pc' := 178) rfl ?_
          refine own_aload X216 hx hby rfl rfl at_178 (pc' := 180) rfl ?_
          refine own_aload X216 hx hby rfl rfl at_180 (pc' := 182) rfl ?_
          refine own_aload X216 hx hby rfl rfl at_182 (pc' := 184) rfl ?_
          refine own_aload X216 hx hby rfl rfl at_184 (pc' := 186) rfl ?_
          refine own_static X216 hx hby hZ (y := (⟨"com/example/bidfold/bidfold/BranchingLearnPinLaw", "model", "(IZDD[D[I[D[I)V"⟩ : MethodName)) (rest := []) hown (hw _ (List.mem_of_getElem? (i := 37) rfl)) (hw _ (List.mem_of_getElem? (i := 38) rfl)) (hw _ (List.mem_of_getElem? (i := 40) rfl)) (hw _ (List.mem_of_getElem? (i := 39) rfl)) (by decide) (rm400 l Z a0 hw [] v11 v12 b15 b16 b17 b18 (0 : UInt64) (0 : UInt64) (0 : Int32) (0 : Int32) h216 n0 Z0 V_b17 V_b18 (fun h1 h2 => (own_ld D_v11 D_v12 (own_fr _) (own_bn0 40) (by decide) h1 h2).1) (fun h1 h2 => (own_ld D_v11 D_v12 (own_fr _) (own_bn0 40) (by decide) h1 h2).2.1) g_b17 (Ne.symm ne_b17_b18) g_b18) eH216 (by rw [hml]; rfl) (argsL := [(.int (0 : Int32)), (.int (0 : Int32)), (.double v11), (.double v12), (.ref b15), (.ref b16), (.ref b17), (.ref b18)]) rfl (lenOf pd_3 rfl) rfl at_186 (pc' := 189) rfl (by decide) (W := 0) (Nat.le_of_eq rfl) (by decide) (by decide) (by decide) (fun T217 h217 Lc217 v217r X217 eH217 hQ217 => ?_)
          obtain ⟨rfl, Nq217, Kq217, gq217_0, gq217_1⟩ := hQ217
          have N217 := Fr.app N216 Nq217
          replace E_b15 := E_b15.keep Kq217
          replace V_b15 := V_b15.keep Kq217 (ninS ne_b15_b17 (ninS ne_b15_b18 nin0))
          replace E_b16 := E_b16.keep Kq217
          replace V_b16 := V_b16.keep Kq217 (ninS ne_b16_b17 (ninS ne_b16_b18 nin0))
          replace E_b17 := E_b17.keep Kq217
          replace E_b18 := E_b18.keep Kq217
          replace E_b19 := E_b19.keep Kq217
          replace F_b19_downFalls := F_b19_downFalls.keep Kq217 (ninS (Ne.symm ne_b17_b19) (ninS (Ne.symm ne_b18_b19) nin0))
          replace F_b19_downCounts := F_b19_downCounts.keep Kq217 (ninS (Ne.symm ne_b17_b19) (ninS (Ne.symm ne_b18_b19) nin0))
          replace F_b19_upFalls := F_b19_upFalls.keep Kq217 (ninS (Ne.symm ne_b17_b19) (ninS (Ne.symm ne_b18_b19) nin0))
          replace F_b19_upCounts := F_b19_upCounts.keep Kq217 (ninS (Ne.symm ne_b17_b19) (ninS (Ne.symm ne_b18_b19) nin0))
          replace E_b4_20 := E_b4_20.keep Kq217
          replace V_b4_20 := V_b4_20.keep Kq217 (ninS (Ne.symm ne_b17_b4_20) (ninS (Ne.symm ne_b18_b4_20) nin0))
          replace E_b6_20 := E_b6_20.keep Kq217
          replace V_b6_20 := V_b6_20.keep Kq217 (ninS (Ne.symm ne_b17_b6_20) (ninS (Ne.symm ne_b18_b6_20) nin0))
          replace E_b8_20 := E_b8_20.keep Kq217
          replace V_b8_20 := V_b8_20.keep Kq217 (ninS (Ne.symm ne_b17_b8_20) (ninS (Ne.symm ne_b18_b8_20) nin0))
          replace E_b10_20 := E_b10_20.keep Kq217
          replace V_b10_20 := V_b10_20.keep Kq217 (ninS (Ne.symm ne_b17_b10_20) (ninS (Ne.symm ne_b18_b10_20) nin0))
          have V_b17 : Ary tr Z h217 b17 .double [(.double v214), (.double (0 : UInt64))] := by rw [← q_v214]; exact gq217_0
          have V_b18 : Ary tr Z h217 b18 .int [(.int n215), (.int (0 : Int32))] := by rw [← q_n215]; exact gq217_1
          replace Z0 := Nat.le_trans Z0 Kq217.1
          refine own_aload X217 hx hby rfl rfl at_189 (pc' := 191) rfl ?_
          refine own_iconst X217 hx hby (v := (0 : Int32)) (by decide) at_191 (pc' := 192) rfl ?_
          refine own_dload X217 hx hby rfl at_192 (pc' := 194) rfl ?_
          refine own_virtual X217 hx hby hZ (y := (⟨"com/example/bidfold/bidfold/Branching", "leansIn", "(ID)Z"⟩ : MethodName)) (y' := (⟨"com/example/bidfold/bidfold/Branching", "leansIn", "(ID)Z"⟩ : MethodName)) (C := "com/example/bidfold/bidfold/Branching") (rest := []) hown (hw _ (List.mem_of_getElem? (i := 42) rfl)) (hw _ (List.mem_of_getElem? (i := 43) rfl)) (notFace_of_selects (args := #[]) (mvT hZ (hw _ (List.mem_of_getElem? (i := 45) rfl)))) (hw _ (List.mem_of_getElem? (i := 45) rfl)) (hw _ (List.mem_of_getElem? (i := 44) rfl)) (hw _ (List.mem_of_getElem? (i := 46) rfl)) (hw _ (List.mem_of_getElem? (i := 10) rfl)) (by decide) (rm50 l Z a0 hw [] b19 v14 b8_20 b10_20 (0 : UInt64) v211 (0 : Int32) n212 b4_20 b6_20 v214 (0 : UInt64) n215 (0 : Int32) h217 n0 Z0 F_b19_upFalls F_b19_upCounts V_b8_20 V_b10_20 F_b19_downFalls F_b19_downCounts V_b4_20 V_b6_20 (fun h => (own_fq (own_bn0 40) (by decide) h).nn) P1.nn ((own_fpu (own_bn0 40) (by decide)).mul P1 (by decide)).nn (fun h => (own_fq B_v214 (by decide) h).nn) ((own_fpu B_v214 (by decide)).mul P0 (by decide)).nn) eH217 (by rw [hml]; rfl) (a := b19) E_b19 (argsL := [(.int (0 : Int32)), (.double v14)]) rfl (lenOf pd_4 rfl) rfl at_194 (pc' := 197) rfl (by decide) (W := 0) (Nat.le_of_eq rfl) (by decide) (by decide) (by decide) (fun T218 h218 Lc218 v218r X218 eH218 hQ218 => ?_)
          obtain ⟨rfl, Nq218, rfl⟩ := hQ218
          have N218 := Fr.app N217 Nq218
          dsimp only [Option.toList, List.cons_append, List.nil_append]
          generalize q_r219 : (if dle (FP.dmul (if 0 < (0 : Int32) then (FP.ddiv (0 : UInt64) (FP.i2d (0 : Int32))) else (4607182418800017408 : UInt64)) (FP.dsub (4607182418800017408 : UInt64) v14)) (FP.dmul (if 0 < n215 then (FP.ddiv v214 (FP.i2d n215)) else (4607182418800017408 : UInt64)) v14) then (1 : Int32) else (0 : Int32)) = r219
          refine own_iconst X218 hx hby (v := (0 : Int32)) (by decide) at_197 (pc' := 198) rfl ?_
          refine own_dload X218 hx hby rfl at_198 (pc' := 200) rfl ?_
          refine own_aload X218 hx hby rfl rfl at_200 (pc' := 202) rfl ?_
          refine own_aload X218 hx hby rfl rfl at_202 (pc' := 204) rfl ?_
          refine own_aload X218 hx hby rfl rfl at_204 (pc' := 206) rfl ?_
          refine own_aload X218 hx hby rfl rfl at_206 (pc' := 208) rfl ?_
          refine own_static X218 hx hby hZ (y := (⟨"com/example/bidfold/bidfold/BranchingLearnPinLaw", "expect", "(ID[D[I[D[I)Z"⟩ : MethodName)) (rest := [(.int r219)]) hown (hw _ (List.mem_of_getElem? (i := 50) rfl)) (hw _ (List.mem_of_getElem? (i := 51) rfl)) (hw _ (List.mem_of_getElem? (i := 52) rfl)) (hw _ (List.mem_of_getElem? (i := 39) rfl)) (by decide) (rm70 l Z a0 hw [] v14 b15 b16 b17 b18 (0 : UInt64) v211 (0 : Int32) n212 v214 (0 : UInt64) n215 (0 : Int32) h217 n0 Z0 V_b15 V_b16 V_b17 V_b18 (fun h => (own_fq (own_bn0 40) (by decide) h).nn) (fun h => (own_fq B_v214 (by decide) h).nn) P1.nn ((own_fpu (own_bn0 40) (by decide)).mul P1 (by decide)).nn ((own_fpu B_v214 (by decide)).mul P0 (by decide)).nn) eH218 (by rw [hml]; rfl) (argsL := [(.int (0 : Int32)), (.double v14), (.ref b15), (.ref b16), (.ref b17), (.ref b18)]) rfl (lenOf pd_5 rfl) rfl at_208 (pc' := 211) rfl (by decide) (W := 1) (Nat.le_of_eq rfl) (by decide) (by decide) (by decide) (fun T220 h220 Lc220 v220r X220 eH220 hQ220 => ?_)
          obtain ⟨rfl, Nq220, rfl⟩ := hQ220
          have N220 := Fr.app N218 Nq220
          dsimp only [Option.toList, List.cons_append, List.nil_append]
          generalize q_r221 : (if dle (FP.dmul (if 0 < (0 : Int32) then (FP.ddiv (0 : UInt64) (FP.i2d (0 : Int32))) else (4607182418800017408 : UInt64)) (FP.dsub (4607182418800017408 : UInt64) v14)) (FP.dmul (if 0 < n215 then (FP.ddiv v214 (FP.i2d n215)) else (4607182418800017408 : UInt64)) v14) then (1 : Int32) else (0 : Int32)) = r221
          have hk222 : r219 = r221 := q_r219.symm.trans q_r221
          refine own_icF X220 hx hby at_211 (own_ic_ne_p hk222) (pc' := 214) rfl ?_
          refine own_aload X220 hx hby rfl rfl at_214 (pc' := 216) rfl ?_
          refine own_iconst X220 hx hby (v := (1 : Int32)) (by decide) at_216 (pc' := 217) rfl ?_
          refine own_dload X220 hx hby rfl at_217 (pc' := 219) rfl ?_
          refine own_virtual X220 hx hby hZ (y := (⟨"com/example/bidfold/bidfold/Branching", "leansIn", "(ID)Z"⟩ : MethodName)) (y' := (⟨"com/example/bidfold/bidfold/Branching", "leansIn", "(ID)Z"⟩ : MethodName)) (C := "com/example/bidfold/bidfold/Branching") (rest := []) hown (hw _ (List.mem_of_getElem? (i := 42) rfl)) (hw _ (List.mem_of_getElem? (i := 43) rfl)) (notFace_of_selects (args := #[]) (mvT hZ (hw _ (List.mem_of_getElem? (i := 45) rfl)))) (hw _ (List.mem_of_getElem? (i := 45) rfl)) (hw _ (List.mem_of_getElem? (i := 44) rfl)) (hw _ (List.mem_of_getElem? (i := 46) rfl)) (hw _ (List.mem_of_getElem? (i := 10) rfl)) (by decide) (rm51 l Z a0 hw [] b19 v14 b8_20 b10_20 (0 : UInt64) v211 (0 : Int32) n212 b4_20 b6_20 v214 (0 : UInt64) n215 (0 : Int32) h217 n0 Z0 F_b19_upFalls F_b19_upCounts V_b8_20 V_b10_20 F_b19_downFalls F_b19_downCounts V_b4_20 V_b6_20 (fun h => (own_fq B_v211 (by decide) h).nn) P1.nn ((own_fpu B_v211 (by decide)).mul P1 (by decide)).nn (fun h => (own_fq (own_bn0 40) (by decide) h).nn) ((own_fpu (own_bn0 40) (by decide)).mul P0 (by decide)).nn) eH220 (by rw [hml]; rfl) (a := b19) E_b19 (argsL := [(.int (1 : Int32)), (.double v14)]) rfl (lenOf pd_4 rfl) rfl at_219 (pc' := 222) rfl (by decide) (W := 0) (Nat.le_of_eq rfl) (by decide) (by decide) (by decide) (fun T223 h223 Lc223 v223r X223 eH223 hQ223 => ?_)
          obtain ⟨rfl, Nq223, rfl⟩ := hQ223
          have N223 := Fr.app N220 Nq223
          dsimp only [Option.toList, List.cons_append, List.nil_append]
          generalize q_r224 : (if dle (FP.dmul (if 0 < n212 then (FP.ddiv v211 (FP.i2d n212)) else (4607182418800017408 : UInt64)) (FP.dsub (4607182418800017408 : UInt64) v14)) (FP.dmul (if 0 < (0 : Int32) then (FP.ddiv (0 : UInt64) (FP.i2d (0 : Int32))) else (4607182418800017408 : UInt64)) v14) then (1 : Int32) else (0 : Int32)) = r224
          refine own_iconst X223 hx hby (v := (1 : Int32)) (by decide) at_222 (pc' := 223) rfl ?_
          refine own_dload X223 hx hby rfl at_223 (pc' := 225) rfl ?_
          refine own_aload X223 hx hby rfl rfl at_225 (pc' := 227) rfl ?_
          refine own_aload X223 hx hby rfl rfl at_227 (pc' := 229) rfl ?_
          refine own_aload X223 hx hby rfl rfl at_229 (pc' := 231) rfl ?_
          refine own_aload X223 hx hby rfl rfl at_231 (pc' := 233) rfl ?_
          refine own_static X223 hx hby hZ (y := (⟨"com/example/bidfold/bidfold/BranchingLearnPinLaw", "expect", "(ID[D[I[D[I)Z"⟩ : MethodName)) (rest := [(.int r224)]) hown (hw _ (List.mem_of_getElem? (i := 50) rfl)) (hw _ (List.mem_of_getElem? (i := 51) rfl)) (hw _ (List.mem_of_getElem? (i := 52) rfl)) (hw _ (List.mem_of_getElem? (i := 39) rfl)) (by decide) (rm71 l Z a0 hw [] v14 b15 b16 b17 b18 (0 : UInt64) v211 (0 : Int32) n212 v214 (0 : UInt64) n215 (0 : Int32) h217 n0 Z0 V_b15 V_b16 V_b17 V_b18 (fun h => (own_fq B_v211 (by decide) h).nn) (fun h => (own_fq (own_bn0 40) (by decide) h).nn) P1.nn ((own_fpu B_v211 (by decide)).mul P1 (by decide)).nn ((own_fpu (own_bn0 40) (by decide)).mul P0 (by decide)).nn) eH223 (by rw [hml]; rfl) (argsL := [(.int (1 : Int32)), (.double v14), (.ref b15), (.ref b16), (.ref b17), (.ref b18)]) rfl (lenOf pd_5 rfl) rfl at_233 (pc' := 236) rfl (by decide) (W := 1) (Nat.le_of_eq rfl) (by decide) (by decide) (by decide) (fun T225 h225 Lc225 v225r X225 eH225 hQ225 => ?_)
          obtain ⟨rfl, Nq225, rfl⟩ := hQ225
          have N225 := Fr.app N223 Nq225
          dsimp only [Option.toList, List.cons_append, List.nil_append]
          generalize q_r226 : (if dle (FP.dmul (if 0 < n212 then (FP.ddiv v211 (FP.i2d n212)) else (4607182418800017408 : UInt64)) (FP.dsub (4607182418800017408 : UInt64) v14)) (FP.dmul (if 0 < (0 : Int32) then (FP.ddiv (0 : UInt64) (FP.i2d (0 : Int32))) else (4607182418800017408 : UInt64)) v14) then (1 : Int32) else (0 : Int32)) = r226
          have hk227 : r224 = r226 := q_r224.symm.trans q_r226
          refine own_icF X225 hx hby at_236 (own_ic_ne_p hk227) (pc' := 239) rfl ?_
          refine own_iconst X225 hx hby (v := (1 : Int32)) (by decide) at_239 (pc' := 240) rfl ?_
          refine own_goto X225 hx hby at_240 (by decide) (pc' := 244) (by decide) ?_
          exact own_retZ X225 hx hby Bd.notSynchronized Bd.returns (Or.inr rfl) at_244 (by decide) (by decide) eH225 ⟨rfl, N225⟩
        · refine own_iload X210 hx hby rfl at_140 (pc' := 142) rfl ?_
          refine own_iload X210 hx hby rfl at_142 (pc' := 144) rfl ?_
          refine own_dload X210 hx hby rfl at_144 (pc' := 146) rfl ?_
          refine own_dload X210 hx hby rfl at_146 (pc' := 148) rfl ?_
          refine own_virtual X210 hx hby hZ (y := (⟨"com/example/bidfold/bidfold/Branching", "learn", "(IZDD)V"⟩ : MethodName)) (y' := (⟨"com/example/bidfold/bidfold/Branching", "learn", "(IZDD)V"⟩ : MethodName)) (C := "com/example/bidfold/bidfold/Branching") (rest := []) hown (hw _ (List.mem_of_getElem? (i := 31) rfl)) (hw _ (List.mem_of_getElem? (i := 32) rfl)) (notFace_of_selects (args := #[]) (mvT hZ (hw _ (List.mem_of_getElem? (i := 34) rfl)))) (hw _ (List.mem_of_getElem? (i := 34) rfl)) (hw _ (List.mem_of_getElem? (i := 33) rfl)) (hw _ (List.mem_of_getElem? (i := 35) rfl)) (hw _ (List.mem_of_getElem? (i := 10) rfl)) (by decide) (rm301 l Z a0 hw [] b19 v11 v12 b8_20 b10_20 (0 : UInt64) v211 (0 : Int32) n212 h210 n0 Z0 F_b19_upFalls F_b19_upCounts V_b8_20 V_b10_20 (fun h1 h2 => (own_lu D_v11 D_v12 (own_fr _) (own_bn0 40) (by decide) h1 h2).1) (fun h1 h2 => (own_lu D_v11 D_v12 (own_fr _) (own_bn0 40) (by decide) h1 h2).2.1) (fun h1 h2 => (own_lu D_v11 D_v12 (own_fr _) (own_bn0 40) (by decide) h1 h2).2.2.1) g_b8_20 ne_b19_b8_20 (Ne.symm ne_b8_20_b10_20) g_b10_20 ne_b19_b10_20) eH210 (by rw [hml]; rfl) (a := b19) E_b19 (argsL := [(.int (0 : Int32)), (.int (1 : Int32)), (.double v11), (.double v12)]) rfl (lenOf pd_2 rfl) rfl at_148 (pc' := 151) rfl (by decide) (W := 0) (Nat.le_of_eq rfl) (by decide) (by decide) (by decide) (fun T228 h228 Lc228 v228r X228 eH228 hQ228 => ?_)
          obtain ⟨rfl, Nq228, Kq228, gq228_0, gq228_1⟩ := hQ228
          have N228 := Fr.app N210 Nq228
          replace E_b15 := E_b15.keep Kq228
          replace V_b15 := V_b15.keep Kq228 (ninS ne_b15_b8_20 (ninS ne_b15_b10_20 nin0))
          replace E_b16 := E_b16.keep Kq228
          replace V_b16 := V_b16.keep Kq228 (ninS ne_b16_b8_20 (ninS ne_b16_b10_20 nin0))
          replace E_b17 := E_b17.keep Kq228
          replace V_b17 := V_b17.keep Kq228 (ninS ne_b17_b8_20 (ninS ne_b17_b10_20 nin0))
          replace E_b18 := E_b18.keep Kq228
          replace V_b18 := V_b18.keep Kq228 (ninS ne_b18_b8_20 (ninS ne_b18_b10_20 nin0))
          replace E_b19 := E_b19.keep Kq228
          replace F_b19_downFalls := F_b19_downFalls.keep Kq228 (ninS ne_b19_b8_20 (ninS ne_b19_b10_20 nin0))
          replace F_b19_downCounts := F_b19_downCounts.keep Kq228 (ninS ne_b19_b8_20 (ninS ne_b19_b10_20 nin0))
          replace F_b19_upFalls := F_b19_upFalls.keep Kq228 (ninS ne_b19_b8_20 (ninS ne_b19_b10_20 nin0))
          replace F_b19_upCounts := F_b19_upCounts.keep Kq228 (ninS ne_b19_b8_20 (ninS ne_b19_b10_20 nin0))
          replace E_b4_20 := E_b4_20.keep Kq228
          replace V_b4_20 := V_b4_20.keep Kq228 (ninS ne_b4_20_b8_20 (ninS ne_b4_20_b10_20 nin0))
          replace E_b6_20 := E_b6_20.keep Kq228
          replace V_b6_20 := V_b6_20.keep Kq228 (ninS ne_b6_20_b8_20 (ninS ne_b6_20_b10_20 nin0))
          replace E_b8_20 := E_b8_20.keep Kq228
          replace E_b10_20 := E_b10_20.keep Kq228
          obtain ⟨v229, q_v229⟩ : ∃ z : UInt64, (if dle v11 (4517329193108106637 : UInt64) then (0 : UInt64) else (if dge v11 (4607182409792818153 : UInt64) then (0 : UInt64) else (FP.dadd (0 : UInt64) (FP.ddiv v12 (FP.dsub (4607182418800017408 : UInt64) v11))))) = z := ⟨_, rfl⟩
          have V_b8_20 : Ary tr Z h228 b8_20 .double [(.double v229), (.double v211)] := by rw [← q_v229]; exact gq228_0
          obtain ⟨n230, q_n230⟩ : ∃ z : Int32, (if dle v11 (4517329193108106637 : UInt64) then (0 : Int32) else (if dge v11 (4607182409792818153 : UInt64) then (0 : Int32) else ((0 : Int32) + (1 : Int32)))) = z := ⟨_, rfl⟩
          have V_b10_20 : Ary tr Z h228 b10_20 .int [(.int n230), (.int n212)] := by rw [← q_n230]; exact gq228_1
          replace Z0 := Nat.le_trans Z0 Kq228.1
          have B_v229 : Bn v229 41 := q_v229 ▸ own_tr (own_bn0 40) (fun h1 h2 => (own_lu D_v11 D_v12 (own_fr _) (own_bn0 40) (by decide) h1 h2).2.2.2)
          refine own_iload X228 hx hby rfl at_151 (pc' := 153) rfl ?_
          refine own_iload X228 hx hby rfl at_153 (pc' := 155) rfl ?_
          refine own_dload X228 hx hby rfl at_155 (pc' := 157) rfl ?_
          refine own_dload X228 hx hby rfl at_157 (pc' := 159) rfl ?_
          refine own_aload X228 hx hby rfl rfl at_159 (pc' := 161) rfl ?_
          refine own_aload X228 hx hby rfl rfl at_161 (pc' := 163) rfl ?_
          refine own_aload X228 hx hby rfl rfl at_163 (pc' := 165) rfl ?_
          refine own_aload X228 hx hby rfl rfl at_165 (pc' := 167) rfl ?_
          refine own_static X228 hx hby hZ (y := (⟨"com/example/bidfold/bidfold/BranchingLearnPinLaw", "model", "(IZDD[D[I[D[I)V"⟩ : MethodName)) (rest := []) hown (hw _ (List.mem_of_getElem? (i := 37) rfl)) (hw _ (List.mem_of_getElem? (i := 38) rfl)) (hw _ (List.mem_of_getElem? (i := 40) rfl)) (hw _ (List.mem_of_getElem? (i := 39) rfl)) (by decide) (rm411 l Z a0 hw [] v5 v6 b15 b16 b17 b18 (0 : UInt64) (0 : UInt64) (0 : Int32) (0 : Int32) h228 n0 Z0 V_b15 V_b16 (fun h1 h2 => (own_lu D_v5 D_v6 (own_fr _) (own_bn0 40) (by decide) h1 h2).1) (fun h1 h2 => (own_lu D_v5 D_v6 (own_fr _) (own_bn0 40) (by decide) h1 h2).2.1) (fun h1 h2 => (own_lu D_v5 D_v6 (own_fr _) (own_bn0 40) (by decide) h1 h2).2.2.1) g_b15 (Ne.symm ne_b15_b16) g_b16) eH228 (by rw [hml]; rfl) (argsL := [(.int (1 : Int32)), (.int (1 : Int32)), (.double v5), (.double v6), (.ref b15), (.ref b16), (.ref b17), (.ref b18)]) rfl (lenOf pd_3 rfl) rfl at_167 (pc' := 170) rfl (by decide) (W := 0) (Nat.le_of_eq rfl) (by decide) (by decide) (by decide) (fun T231 h231 Lc231 v231r X231 eH231 hQ231 => ?_)
          obtain ⟨rfl, Nq231, Kq231, gq231_0, gq231_1⟩ := hQ231
          have N231 := Fr.app N228 Nq231
          replace E_b15 := E_b15.keep Kq231
          replace E_b16 := E_b16.keep Kq231
          replace E_b17 := E_b17.keep Kq231
          replace V_b17 := V_b17.keep Kq231 (ninS (Ne.symm ne_b15_b17) (ninS (Ne.symm ne_b16_b17) nin0))
          replace E_b18 := E_b18.keep Kq231
          replace V_b18 := V_b18.keep Kq231 (ninS (Ne.symm ne_b15_b18) (ninS (Ne.symm ne_b16_b18) nin0))
          replace E_b19 := E_b19.keep Kq231
          replace F_b19_downFalls := F_b19_downFalls.keep Kq231 (ninS (Ne.symm ne_b15_b19) (ninS (Ne.symm ne_b16_b19) nin0))
          replace F_b19_downCounts := F_b19_downCounts.keep Kq231 (ninS (Ne.symm ne_b15_b19) (ninS (Ne.symm ne_b16_b19) nin0))
          replace F_b19_upFalls := F_b19_upFalls.keep Kq231 (ninS (Ne.symm ne_b15_b19) (ninS (Ne.symm ne_b16_b19) nin0))
          replace F_b19_upCounts := F_b19_upCounts.keep Kq231 (ninS (Ne.symm ne_b15_b19) (ninS (Ne.symm ne_b16_b19) nin0))
          replace E_b4_20 := E_b4_20.keep Kq231
          replace V_b4_20 := V_b4_20.keep Kq231 (ninS (Ne.symm ne_b15_b4_20) (ninS (Ne.symm ne_b16_b4_20) nin0))
          replace E_b6_20 := E_b6_20.keep Kq231
          replace V_b6_20 := V_b6_20.keep Kq231 (ninS (Ne.symm ne_b15_b6_20) (ninS (Ne.symm ne_b16_b6_20) nin0))
          replace E_b8_20 := E_b8_20.keep Kq231
          replace V_b8_20 := V_b8_20.keep Kq231 (ninS (Ne.symm ne_b15_b8_20) (ninS (Ne.symm ne_b16_b8_20) nin0))
          replace E_b10_20 := E_b10_20.keep Kq231
          replace V_b10_20 := V_b10_20.keep Kq231 (ninS (Ne.symm ne_b15_b10_20) (ninS (Ne.symm ne_b16_b10_20) nin0))
          have V_b15 : Ary tr Z h231 b15 .double [(.double (0 : UInt64)), (.double v211)] := by rw [← q_v211]; exact gq231_0
          have V_b16 : Ary tr Z h231 b16 .int [(.int (0 : Int32)), (.int n212)] := by rw [← q_n212]; exact gq231_1
          replace Z0 := Nat.le_trans Z0 Kq231.1
          refine own_iload X231 hx hby rfl at_170 (pc' := 172) rfl ?_
          refine own_iload X231 hx hby rfl at_172 (pc' := 174) rfl ?_
          refine own_dload X231 hx hby rfl at_174 (pc' := 176) rfl ?_
          refine own_dload X231 hx hby rfl at_176 (pc' := 178) rfl ?_
          refine own_aload X231 hx hby rfl rfl at_178 (pc' := 180) rfl ?_
          refine own_aload X231 hx hby rfl rfl at_180 (pc' := 182) rfl ?_
          refine own_aload X231 hx hby rfl rfl at_182 (pc' := 184) rfl ?_
          refine own_aload X231 hx hby rfl rfl at_184 (pc' := 186) rfl ?_
          refine own_static X231 hx hby hZ (y := (⟨"com/example/bidfold/bidfold/BranchingLearnPinLaw", "model", "(IZDD[D[I[D[I)V"⟩ : MethodName)) (rest := []) hown (hw _ (List.mem_of_getElem? (i := 37) rfl)) (hw _ (List.mem_of_getElem? (i := 38) rfl)) (hw _ (List.mem_of_getElem? (i := 40) rfl)) (hw _ (List.mem_of_getElem? (i := 39) rfl)) (by decide) (rm401 l Z a0 hw [] v11 v12 b15 b16 b17 b18 (0 : UInt64) v211 (0 : Int32) n212 h231 n0 Z0 V_b15 V_b16 (fun h1 h2 => (own_lu D_v11 D_v12 (own_fr _) (own_bn0 40) (by decide) h1 h2).1) (fun h1 h2 => (own_lu D_v11 D_v12 (own_fr _) (own_bn0 40) (by decide) h1 h2).2.1) (fun h1 h2 => (own_lu D_v11 D_v12 (own_fr _) (own_bn0 40) (by decide) h1 h2).2.2.1) g_b15 (Ne.symm ne_b15_b16) g_b16) eH231 (by rw [hml]; rfl) (argsL := [(.int (0 : Int32)), (.int (1 : Int32)), (.double v11), (.double v12), (.ref b15), (.ref b16), (.ref b17), (.ref b18)]) rfl (lenOf pd_3 rfl) rfl at_186 (pc' := 189) rfl (by decide) (W := 0) (Nat.le_of_eq rfl) (by decide) (by decide) (by decide) (fun T232 h232 Lc232 v232r X232 eH232 hQ232 => ?_)
          obtain ⟨rfl, Nq232, Kq232, gq232_0, gq232_1⟩ := hQ232
          have N232 := Fr.app N231 Nq232
          replace E_b15 := E_b15.keep Kq232
          replace E_b16 := E_b16.keep Kq232
          replace E_b17 := E_b17.keep Kq232
          replace V_b17 := V_b17.keep Kq232 (ninS (Ne.symm ne_b15_b17) (ninS (Ne.symm ne_b16_b17) nin0))
          replace E_b18 := E_b18.keep Kq232
          replace V_b18 := V_b18.keep Kq232 (ninS (Ne.symm ne_b15_b18) (ninS (Ne.symm ne_b16_b18) nin0))
          replace E_b19 := E_b19.keep Kq232
          replace F_b19_downFalls := F_b19_downFalls.keep Kq232 (ninS (Ne.symm ne_b15_b19) (ninS (Ne.symm ne_b16_b19) nin0))
          replace F_b19_downCounts := F_b19_downCounts.keep Kq232 (ninS (Ne.symm ne_b15_b19) (ninS (Ne.symm ne_b16_b19) nin0))
          replace F_b19_upFalls := F_b19_upFalls.keep Kq232 (ninS (Ne.symm ne_b15_b19) (ninS (Ne.symm ne_b16_b19) nin0))
          replace F_b19_upCounts := F_b19_upCounts.keep Kq232 (ninS (Ne.symm ne_b15_b19) (ninS (Ne.symm ne_b16_b19) nin0))
          replace E_b4_20 := E_b4_20.keep Kq232
          replace V_b4_20 := V_b4_20.keep Kq232 (ninS (Ne.symm ne_b15_b4_20) (ninS (Ne.symm ne_b16_b4_20) nin0))
          replace E_b6_20 := E_b6_20.keep Kq232
          replace V_b6_20 := V_b6_20.keep Kq232 (ninS (Ne.symm ne_b15_b6_20) (ninS (Ne.symm ne_b16_b6_20) nin0))
          replace E_b8_20 := E_b8_20.keep Kq232
          replace V_b8_20 := V_b8_20.keep Kq232 (ninS (Ne.symm ne_b15_b8_20) (ninS (Ne.symm ne_b16_b8_20) nin0))
          replace E_b10_20 := E_b10_20.keep Kq232
          replace V_b10_20 := V_b10_20.keep Kq232 (ninS (Ne.symm ne_b15_b10_20) (ninS (Ne.symm ne_b16_b10_20) nin0))
          have V_b15 : Ary tr Z h232 b15 .double [(.double v229), (.double v211)] := by rw [← q_v229]; exact gq232_0
          have V_b16 : Ary tr Z h232 b16 .int [(.int n230), (.int n212)] := by rw [← q_n230]; exact gq232_1
          replace Z0 := Nat.le_trans Z0 Kq232.1
          refine own_aload X232 hx hby rfl rfl at_189 (pc' := 191) rfl ?_
          refine own_iconst X232 hx hby (v := (0 : Int32)) (by decide) at_191 (pc' := 192) rfl ?_
          refine own_dload X232 hx hby rfl at_192 (pc' := 194) rfl ?_
          refine own_virtual X232 hx hby hZ (y := (⟨"com/example/bidfold/bidfold/Branching", "leansIn", "(ID)Z"⟩ : MethodName)) (y' := (⟨"com/example/bidfold/bidfold/Branching", "leansIn", "(ID)Z"⟩ : MethodName)) (C := "com/example/bidfold/bidfold/Branching") (rest := []) hown (hw _ (List.mem_of_getElem? (i := 42) rfl)) (hw _ (List.mem_of_getElem? (i := 43) rfl)) (notFace_of_selects (args := #[]) (mvT hZ (hw _ (List.mem_of_getElem? (i := 45) rfl)))) (hw _ (List.mem_of_getElem? (i := 45) rfl)) (hw _ (List.mem_of_getElem? (i := 44) rfl)) (hw _ (List.mem_of_getElem? (i := 46) rfl)) (hw _ (List.mem_of_getElem? (i := 10) rfl)) (by decide) (rm50 l Z a0 hw [] b19 v14 b8_20 b10_20 v229 v211 n230 n212 b4_20 b6_20 (0 : UInt64) (0 : UInt64) (0 : Int32) (0 : Int32) h232 n0 Z0 F_b19_upFalls F_b19_upCounts V_b8_20 V_b10_20 F_b19_downFalls F_b19_downCounts V_b4_20 V_b6_20 (fun h => (own_fq B_v229 (by decide) h).nn) P1.nn ((own_fpu B_v229 (by decide)).mul P1 (by decide)).nn (fun h => (own_fq (own_bn0 40) (by decide) h).nn) ((own_fpu (own_bn0 40) (by decide)).mul P0 (by decide)).nn) eH232 (by rw [hml]; rfl) (a := b19) E_b19 (argsL := [(.int (0 : Int32)), (.double v14)]) rfl (lenOf pd_4 rfl) rfl at_194 (pc' := 197) rfl (by decide) (W := 0) (Nat.le_of_eq rfl) (by decide) (by decide) (by decide) (fun T233 h233 Lc233 v233r X233 eH233 hQ233 => ?_)
          obtain ⟨rfl, Nq233, rfl⟩ := hQ233
          have N233 := Fr.app N232 Nq233
          dsimp only [Option.toList, List.cons_append, List.nil_append]
          generalize q_r234 : (if dle (FP.dmul (if 0 < n230 then (FP.ddiv v229 (FP.i2d n230)) else (4607182418800017408 : UInt64)) (FP.dsub (4607182418800017408 : UInt64) v14)) (FP.dmul (if 0 < (0 : Int32) then (FP.ddiv (0 : UInt64) (FP.i2d (0 : Int32))) else (4607182418800017408 : UInt64)) v14) then (1 : Int32) else (0 : Int32)) = r234
          refine own_iconst X233 hx hby (v := (0 : Int32)) (by decide) at_197 (pc' := 198) rfl ?_
          refine own_dload X233 hx hby rfl at_198 (pc' := 200) rfl ?_
          refine own_aload X233 hx hby rfl rfl at_200 (pc' := 202) rfl ?_
          refine own_aload X233 hx hby rfl rfl at_202 (pc' := 204) rfl ?_
          refine own_aload X233 hx hby rfl rfl at_204 (pc' := 206) rfl ?_
          refine own_aload X233 hx hby rfl rfl at_206 (pc' := 208) rfl ?_
          refine own_static X233 hx hby hZ (y := (⟨"com/example/bidfold/bidfold/BranchingLearnPinLaw", "expect", "(ID[D[I[D[I)Z"⟩ : MethodName)) (rest := [(.int r234)]) hown (hw _ (List.mem_of_getElem? (i := 50) rfl)) (hw _ (List.mem_of_getElem? (i := 51) rfl)) (hw _ (List.mem_of_getElem? (i := 52) rfl)) (hw _ (List.mem_of_getElem? (i := 39) rfl)) (by decide) (rm70 l Z a0 hw [] v14 b15 b16 b17 b18 v229 v211 n230 n212 (0 : UInt64) (0 : UInt64) (0 : Int32) (0 : Int32) h232 n0 Z0 V_b15 V_b16 V_b17 V_b18 (fun h => (own_fq B_v229 (by decide) h).nn) (fun h => (own_fq (own_bn0 40) (by decide) h).nn) P1.nn ((own_fpu B_v229 (by decide)).mul P1 (by decide)).nn ((own_fpu (own_bn0 40) (by decide)).mul P0 (by decide)).nn) eH233 (by rw [hml]; rfl) (argsL := [(.int (0 : Int32)), (.double v14), (.ref b15), (.ref b16), (.ref b17), (.ref b18)]) rfl (lenOf pd_5 rfl) rfl at_208 (pc' := 211) rfl (by decide) (W := 1) (Nat.le_of_eq rfl) (by decide) (by decide) (by decide) (fun T235 h235 Lc235 v235r X235 eH235 hQ235 => ?_)
          obtain ⟨rfl, Nq235, rfl⟩ := hQ235
          have N235 := Fr.app N233 Nq235
          dsimp only [Option.toList, List.cons_append, List.nil_append]
          generalize q_r236 : (if dle (FP.dmul (if 0 < n230 then (FP.ddiv v229 (FP.i2d n230)) else (4607182418800017408 : UInt64)) (FP.dsub (4607182418800017408 : UInt64) v14)) (FP.dmul (if 0 < (0 : Int32) then (FP.ddiv (0 : UInt64) (FP.i2d (0 : Int32))) else (4607182418800017408 : UInt64)) v14) then (1 : Int32) else (0 : Int32)) = r236
          have hk237 : r234 = r236 := q_r234.symm.trans q_r236
          refine own_icF X235 hx hby at_211 (own_ic_ne_p hk237) (pc' := 214) rfl ?_
          refine own_aload X235 hx hby rfl rfl at_214 (pc' := 216) rfl ?_
          refine own_iconst X235 hx hby (v := (1 : Int32)) (by decide) at_216 (pc' := 217) rfl ?_
          refine own_dload X235 hx hby rfl at_217 (pc' := 219) rfl ?_
          refine own_virtual X235 hx hby hZ (y := (⟨"com/example/bidfold/bidfold/Branching", "leansIn", "(ID)Z"⟩ : MethodName)) (y' := (⟨"com/example/bidfold/bidfold/Branching", "leansIn", "(ID)Z"⟩ : MethodName)) (C := "com/example/bidfold/bidfold/Branching") (rest := []) hown (hw _ (List.mem_of_getElem? (i := 42) rfl)) (hw _ (List.mem_of_getElem? (i := 43) rfl)) (notFace_of_selects (args := #[]) (mvT hZ (hw _ (List.mem_of_getElem? (i := 45) rfl)))) (hw _ (List.mem_of_getElem? (i := 45) rfl)) (hw _ (List.mem_of_getElem? (i := 44) rfl)) (hw _ (List.mem_of_getElem? (i := 46) rfl)) (hw _ (List.mem_of_getElem? (i := 10) rfl)) (by decide) (rm51 l Z a0 hw [] b19 v14 b8_20 b10_20 v229 v211 n230 n212 b4_20 b6_20 (0 : UInt64) (0 : UInt64) (0 : Int32) (0 : Int32) h232 n0 Z0 F_b19_upFalls F_b19_upCounts V_b8_20 V_b10_20 F_b19_downFalls F_b19_downCounts V_b4_20 V_b6_20 (fun h => (own_fq B_v211 (by decide) h).nn) P1.nn ((own_fpu B_v211 (by decide)).mul P1 (by decide)).nn (fun h => (own_fq (own_bn0 40) (by decide) h).nn) ((own_fpu (own_bn0 40) (by decide)).mul P0 (by decide)).nn) eH235 (by rw [hml]; rfl) (a := b19) E_b19 (argsL := [(.int (1 : Int32)), (.double v14)]) rfl (lenOf pd_4 rfl) rfl at_219 (pc' := 222) rfl (by decide) (W := 0) (Nat.le_of_eq rfl) (by decide) (by decide) (by decide) (fun T238 h238 Lc238 v238r X238 eH238 hQ238 => ?_)
          obtain ⟨rfl, Nq238, rfl⟩ := hQ238
          have N238 := Fr.app N235 Nq238
          dsimp only [Option.toList, List.cons_append, List.nil_append]
          generalize q_r239 : (if dle (FP.dmul (if 0 < n212 then (FP.ddiv v211 (FP.i2d n212)) else (4607182418800017408 : UInt64)) (FP.dsub (4607182418800017408 : UInt64) v14)) (FP.dmul (if 0 < (0 : Int32) then (FP.ddiv (0 : UInt64) (FP.i2d (0 : Int32))) else (4607182418800017408 : UInt64)) v14) then (1 : Int32) else (0 : Int32)) = r239
          refine own_iconst X238 hx hby (v := (1 : Int32)) (by decide) at_222 (pc' := 223) rfl ?_
          refine own_dload X238 hx hby rfl at_223 (pc' := 225) rfl ?_
          refine own_aload X238 hx hby rfl rfl at_225 (pc' := 227) rfl ?_
          refine own_aload X238 hx hby rfl rfl at_227 (pc' := 229) rfl ?_
          refine own_aload X238 hx hby rfl rfl at_229 (pc' := 231) rfl ?_
          refine own_aload X238 hx hby rfl rfl at_231 (pc' := 233) rfl ?_
          refine own_static X238 hx hby hZ (y := (⟨"com/example/bidfold/bidfold/BranchingLearnPinLaw", "expect", "(ID[D[I[D[I)Z"⟩ : MethodName)) (rest := [(.int r239)]) hown (hw _ (List.mem_of_getElem? (i := 50) rfl)) (hw _ (List.mem_of_getElem? (i := 51) rfl)) (hw _ (List.mem_of_getElem? (i := 52) rfl)) (hw _ (List.mem_of_getElem? (i := 39) rfl)) (by decide) (rm71 l Z a0 hw [] v14 b15 b16 b17 b18 v229 v211 n230 n212 (0 : UInt64) (0 : UInt64) (0 : Int32) (0 : Int32) h232 n0 Z0 V_b15 V_b16 V_b17 V_b18 (fun h => (own_fq B_v211 (by decide) h).nn) (fun h => (own_fq (own_bn0 40) (by decide) h).nn) P1.nn ((own_fpu B_v211 (by decide)).mul P1 (by decide)).nn ((own_fpu (own_bn0 40) (by decide)).mul P0 (by decide)).nn) eH238 (by rw [hml]; rfl) (argsL := [(.int (1 : Int32)), (.double v14), (.ref b15), (.ref b16), (.ref b17), (.ref b18)]) rfl (lenOf pd_5 rfl) rfl at_233 (pc' := 236) rfl (by decide) (W := 1) (Nat.le_of_eq rfl) (by decide) (by decide) (by decide) (fun T240 h240 Lc240 v240r X240 eH240 hQ240 => ?_)
          obtain ⟨rfl, Nq240, rfl⟩ := hQ240
          have N240 := Fr.app N238 Nq240
          dsimp only [Option.toList, List.cons_append, List.nil_append]
          generalize q_r241 : (if dle (FP.dmul (if 0 < n212 then (FP.ddiv v211 (FP.i2d n212)) else (4607182418800017408 : UInt64)) (FP.dsub (4607182418800017408 : UInt64) v14)) (FP.dmul (if 0 < (0 : Int32) then (FP.ddiv (0 : UInt64) (FP.i2d (0 : Int32))) else (4607182418800017408 : UInt64)) v14) then (1 : Int32) else (0 : Int32)) = r241
          have hk242 : r239 = r241 := q_r239.symm.trans q_r241
          refine own_icF X240 hx hby at_236 (own_ic_ne_p hk242) (pc' := 239) rfl ?_
          refine own_iconst X240 hx hby (v := (1 : Int32)) (by decide) at_239 (pc' := 240) rfl ?_
          refine own_goto X240 hx hby at_240 (by decide) (pc' := 244) (by decide) ?_
          exact own_retZ X240 hx hby Bd.notSynchronized Bd.returns (Or.inr rfl) at_244 (by decide) (by decide) eH240 ⟨rfl, N240⟩
      · refine own_aload X210 hx hby rfl rfl at_138 (pc' := 140) rfl ?_
        rcases own_ite01 q_w8 with rfl | rfl
        · refine own_iload X210 hx hby rfl at_140 (pc' := 142) rfl ?_
          refine own_iload X210 hx hby rfl at_142 (pc' := 144) rfl ?_
          refine own_dload X210 hx hby rfl at_144 (pc' := 146) rfl ?_
          refine own_dload X210 hx hby rfl at_146 (pc' := 148) rfl ?_
          refine own_virtual X210 hx hby hZ (y := (⟨"com/example/bidfold/bidfold/Branching", "learn", "(IZDD)V"⟩ : MethodName)) (y' := (⟨"com/example/bidfold/bidfold/Branching", "learn", "(IZDD)V"⟩ : MethodName)) (C := "com/example/bidfold/bidfold/Branching") (rest := []) hown (hw _ (List.mem_of_getElem? (i := 31) rfl)) (hw _ (List.mem_of_getElem? (i := 32) rfl)) (notFace_of_selects (args := #[]) (mvT hZ (hw _ (List.mem_of_getElem? (i := 34) rfl)))) (hw _ (List.mem_of_getElem? (i := 34) rfl)) (hw _ (List.mem_of_getElem? (i := 33) rfl)) (hw _ (List.mem_of_getElem? (i := 35) rfl)) (hw _ (List.mem_of_getElem? (i := 10) rfl)) (by decide) (rm310 l Z a0 hw [] b19 v11 v12 b4_20 b6_20 (0 : UInt64) (0 : UInt64) (0 : Int32) (0 : Int32) h210 n0 Z0 F_b19_downFalls F_b19_downCounts V_b4_20 V_b6_20 (fun h1 h2 => (own_ld D_v11 D_v12 (own_fr _) (own_bn0 40) (by decide) h1 h2).1) (fun h1 h2 => (own_ld D_v11 D_v12 (own_fr _) (own_bn0 40) (by decide) h1 h2).2.1) g_b4_20 ne_b19_b4_20 (Ne.symm ne_b4_20_b6_20) g_b6_20 ne_b19_b6_20) eH210 (by rw [hml]; rfl) (a := b19) E_b19 (argsL := [(.int (1 : Int32)), (.int (0 : Int32)), (.double v11), (.double v12)]) rfl (lenOf pd_2 rfl) rfl at_148 (pc' := 151) rfl (by decide) (W := 0) (Nat.le_of_eq rfl) (by decide) (by decide) (by decide) (fun T243 h243 Lc243 v243r X243 eH243 hQ243 => ?_)
          obtain ⟨rfl, Nq243, Kq243, gq243_0, gq243_1⟩ := hQ243
          have N243 := Fr.app N210 Nq243
          replace E_b15 := E_b15.keep Kq243
          replace V_b15 := V_b15.keep Kq243 (ninS ne_b15_b4_20 (ninS ne_b15_b6_20 nin0))
          replace E_b16 := E_b16.keep Kq243
          replace V_b16 := V_b16.keep Kq243 (ninS ne_b16_b4_20 (ninS ne_b16_b6_20 nin0))
          replace E_b17 := E_b17.keep Kq243
          replace V_b17 := V_b17.keep Kq243 (ninS ne_b17_b4_20 (ninS ne_b17_b6_20 nin0))
          replace E_b18 := E_b18.keep Kq243
          replace V_b18 := V_b18.keep Kq243 (ninS ne_b18_b4_20 (ninS ne_b18_b6_20 nin0))
          replace E_b19 := E_b19.keep Kq243
          replace F_b19_downFalls := F_b19_downFalls.keep Kq243 (ninS ne_b19_b4_20 (ninS ne_b19_b6_20 nin0))
          replace F_b19_downCounts := F_b19_downCounts.keep Kq243 (ninS ne_b19_b4_20 (ninS ne_b19_b6_20 nin0))
          replace F_b19_upFalls := F_b19_upFalls.keep Kq243 (ninS ne_b19_b4_20 (ninS ne_b19_b6_20 nin0))
          replace F_b19_upCounts := F_b19_upCounts.keep Kq243 (ninS ne_b19_b4_20 (ninS ne_b19_b6_20 nin0))
          replace E_b4_20 := E_b4_20.keep Kq243
          replace E_b6_20 := E_b6_20.keep Kq243
          replace E_b8_20 := E_b8_20.keep Kq243
          replace V_b8_20 := V_b8_20.keep Kq243 (ninS (Ne.symm ne_b4_20_b8_20) (ninS (Ne.symm ne_b6_20_b8_20) nin0))
          replace E_b10_20 := E_b10_20.keep Kq243
          replace V_b10_20 := V_b10_20.keep Kq243 (ninS (Ne.symm ne_b4_20_b10_20) (ninS (Ne.symm ne_b6_20_b10_20) nin0))
          obtain ⟨v244, q_v244⟩ : ∃ z : UInt64, (if dle v11 (4517329193108106637 : UInt64) then (0 : UInt64) else (if dge v11 (4607182409792818153 : UInt64) then (0 : UInt64) else (FP.dadd (0 : UInt64) (FP.ddiv v12 v11)))) = z := ⟨_, rfl⟩
          have V_b4_20 : Ary tr Z h243 b4_20 .double [(.double (0 : UInt64)), (.double v244)] := by rw [← q_v244]; exact gq243_0
          obtain ⟨n245, q_n245⟩ : ∃ z : Int32, (if dle v11 (4517329193108106637 : UInt64) then (0 : Int32) else (if dge v11 (4607182409792818153 : UInt64) then (0 : Int32) else ((0 : Int32) + (1 : Int32)))) = z := ⟨_, rfl⟩
          have V_b6_20 : Ary tr Z h243 b6_20 .int [(.int (0 : Int32)), (.int n245)] := by rw [← q_n245]; exact gq243_1
          replace Z0 := Nat.le_trans Z0 Kq243.1
          have B_v244 : Bn v244 41 := q_v244 ▸ own_tr (own_bn0 40) (fun h1 h2 => (own_ld D_v11 D_v12 (own_fr _) (own_bn0 40) (by decide) h1 h2).2.2)
          refine own_iload X243 hx hby rfl at_151 (pc' := 153) rfl ?_
          refine own_iload X243 hx hby rfl at_153 (pc' := 155) rfl ?_
          refine own_dload X243 hx hby rfl at_155 (pc' := 157) rfl ?_
          refine own_dload X243 hx hby rfl at_157 (pc' := 159) rfl ?_
          refine own_aload X243 hx hby rfl rfl at_159 (pc' := 161) rfl ?_
          refine own_aload X243 hx hby rfl rfl at_161 (pc' := 163) rfl ?_
          refine own_aload X243 hx hby rfl rfl at_163 (pc' := 165) rfl ?_
          refine own_aload X243 hx hby rfl rfl at_165 (pc' := 167) rfl ?_
          refine own_static X243 hx hby hZ (y := (⟨"com/example/bidfold/bidfold/BranchingLearnPinLaw", "model", "(IZDD[D[I[D[I)V"⟩ : MethodName)) (rest := []) hown (hw _ (List.mem_of_getElem? (i := 37) rfl)) (hw _ (List.mem_of_getElem? (i := 38) rfl)) (hw _ (List.mem_of_getElem? (i := 40) rfl)) (hw _ (List.mem_of_getElem? (i := 39) rfl)) (by decide) (rm411 l Z a0 hw [] v5 v6 b15 b16 b17 b18 (0 : UInt64) (0 : UInt64) (0 : Int32) (0 : Int32) h243 n0 Z0 V_b15 V_b16 (fun h1 h2 => (own_lu D_v5 D_v6 (own_fr _) (own_bn0 40) (by decide) h1 h2).1) (fun h1 h2 => (own_lu D_v5 D_v6 (own_fr _) (own_bn0 40) (by decide) h1 h2).2.1) (fun h1 h2 => (own_lu D_v5 D_v6 (own_fr _) (own_bn0 40) (by decide) h1 h2).2.2.1) g_b15 (Ne.symm ne_b15_b16) g_b16) eH243 (by rw [hml]; rfl) (argsL := [(.int (1 : Int32)), (.int (1 : Int32)), (.double v5), (.double v6), (.ref b15), (.ref b16), (.ref b17), (.ref b18)]) rfl (lenOf pd_3 rfl) rfl at_167 (pc' := 170) rfl (by decide) (W := 0) (Nat.le_of_eq rfl) (by decide) (by decide) (by decide) (fun T246 h246 Lc246 v246r X246 eH246 hQ246 => ?_)
          obtain ⟨rfl, Nq246, Kq246, gq246_0, gq246_1⟩ := hQ246
          have N246 := Fr.app N243 Nq246
          replace E_b15 := E_b15.keep Kq246
          replace E_b16 := E_b16.keep Kq246
          replace E_b17 := E_b17.keep Kq246
          replace V_b17 := V_b17.keep Kq246 (ninS (Ne.symm ne_b15_b17) (ninS (Ne.symm ne_b16_b17) nin0))
          replace E_b18 := E_b18.keep Kq246
          replace V_b18 := V_b18.keep Kq246 (ninS (Ne.symm ne_b15_b18) (ninS (Ne.symm ne_b16_b18) nin0))
          replace E_b19 := E_b19.keep Kq246
          replace F_b19_downFalls := F_b19_downFalls.keep Kq246 (ninS (Ne.symm ne_b15_b19) (ninS (Ne.symm ne_b16_b19) nin0))
          replace F_b19_downCounts := F_b19_downCounts.keep Kq246 (ninS (Ne.symm ne_b15_b19) (ninS (Ne.symm ne_b16_b19) nin0))
          replace F_b19_upFalls := F_b19_upFalls.keep Kq246 (ninS (Ne.symm ne_b15_b19) (ninS (Ne.symm ne_b16_b19) nin0))
          replace F_b19_upCounts := F_b19_upCounts.keep Kq246 (ninS (Ne.symm ne_b15_b19) (ninS (Ne.symm ne_b16_b19) nin0))
          replace E_b4_20 := E_b4_20.keep Kq246
          replace V_b4_20 := V_b4_20.keep Kq246 (ninS (Ne.symm ne_b15_b4_20) (ninS (Ne.symm ne_b16_b4_20) nin0))
          replace E_b6_20 := E_b6_20.keep Kq246
          replace V_b6_20 := V_b6_20.keep Kq246 (ninS (Ne.symm ne_b15_b6_20) (ninS (Ne.symm ne_b16_b6_20) nin0))
          replace E_b8_20 := E_b8_20.keep Kq246
          replace V_b8_20 := V_b8_20.keep Kq246 (ninS (Ne.symm ne_b15_b8_20) (ninS (Ne.symm ne_b16_b8_20) nin0))
          replace E_b10_20 := E_b10_20.keep Kq246
          replace V_b10_20 := V_b10_20.keep Kq246 (ninS (Ne.symm ne_b15_b10_20) (ninS (Ne.symm ne_b16_b10_20) nin0))
          have V_b15 : Ary tr Z h246 b15 .double [(.double (0 : UInt64)), (.double v211)] := by rw [← q_v211]; exact gq246_0
          have V_b16 : Ary tr Z h246 b16 .int [(.int (0 : Int32)), (.int n212)] := by rw [← q_n212]; exact gq246_1
          replace Z0 := Nat.le_trans Z0 Kq246.1
          refine own_iload X246 hx hby rfl at_170 (pc' := 172) rfl ?_
          refine own_iload X246 hx hby rfl at_172 (pc' := 174) rfl ?_
          refine own_dload X246 hx hby rfl at_174 (pc' := 176) rfl ?_
          refine own_dload X246 hx hby rfl at_176 (pc' := 178) rfl ?_
          refine own_aload X246 hx hby rfl rfl at_178 (pc' := 180) rfl ?_
          refine own_aload X246 hx hby rfl rfl at_180 (pc' := 182) rfl ?_
          refine own_aload X246 hx hby rfl rfl at_182 (pc' := 184) rfl ?_
          refine own_aload X246 hx hby rfl rfl at_184 (pc' := 186) rfl ?_
          refine own_static X246 hx hby hZ (y := (⟨"com/example/bidfold/bidfold/BranchingLearnPinLaw", "model", "(IZDD[D[I[D[I)V"⟩ : MethodName)) (rest := []) hown (hw _ (List.mem_of_getElem? (i := 37) rfl)) (hw _ (List.mem_of_getElem? (i := 38) rfl)) (hw _ (List.mem_of_getElem? (i := 40) rfl)) (hw _ (List.mem_of_getElem? (i := 39) rfl)) (by decide) (rm410 l Z a0 hw [] v11 v12 b15 b16 b17 b18 (0 : UInt64) (0 : UInt64) (0 : Int32) (0 : Int32) h246 n0 Z0 V_b17 V_b18 (fun h1 h2 => (own_ld D_v11 D_v12 (own_fr _) (own_bn0 40) (by decide) h1 h2).1) (fun h1 h2 => (own_ld D_v11 D_v12 (own_fr _) (own_bn0 40) (by decide) h1 h2).2.1) g_b17 (Ne.symm ne_b17_b18) g_b18) eH246 (by rw [hml]; rfl) (argsL := [(.int (1 : Int32)), (.int (0 : Int32)), (.double v11), (.double v12), (.ref b15), (.ref b16), (.ref b17), (.ref b18)]) rfl (lenOf pd_3 rfl) rfl at_186 (pc' := 189) rfl (by decide) (W := 0) (Nat.le_of_eq rfl) (by decide) (by decide) (by decide) (fun T247 h247 Lc247 v247r X247 eH247 hQ247 => ?_)
          obtain ⟨rfl, Nq247, Kq247, gq247_0, gq247_1⟩ := hQ247
          have N247 := Fr.app N246 Nq247
          replace E_b15 := E_b15.keep Kq247
          replace V_b15 := V_b15.keep Kq247 (ninS ne_b15_b17 (ninS ne_b15_b18 nin0))
          replace E_b16 := E_b16.keep Kq247
          replace V_b16 := V_b16.keep Kq247 (ninS ne_b16_b17 (ninS ne_b16_b18 nin0))
          replace E_b17 := E_b17.keep Kq247
          replace E_b18 := E_b18.keep Kq247
          replace E_b19 := E_b19.keep Kq247
          replace F_b19_downFalls := F_b19_downFalls.keep Kq247 (ninS (Ne.symm ne_b17_b19) (ninS (Ne.symm ne_b18_b19) nin0))
          replace F_b19_downCounts := F_b19_downCounts.keep Kq247 (ninS (Ne.symm ne_b17_b19) (ninS (Ne.symm ne_b18_b19) nin0))
          replace F_b19_upFalls := F_b19_upFalls.keep Kq247 (ninS (Ne.symm ne_b17_b19) (ninS (Ne.symm ne_b18_b19) nin0))
          replace F_b19_upCounts := F_b19_upCounts.keep Kq247 (ninS (Ne.symm ne_b17_b19) (ninS (Ne.symm ne_b18_b19) nin0))
          replace E_b4_20 := E_b4_20.keep Kq247
          replace V_b4_20 := V_b4_20.keep Kq247 (ninS (Ne.symm ne_b17_b4_20) (ninS (Ne.symm ne_b18_b4_20) nin0))
          replace E_b6_20 := E_b6_20.keep Kq247
          replace V_b6_20 := V_b6_20.keep Kq247 (ninS (Ne.symm ne_b17_b6_20) (ninS (Ne.symm ne_b18_b6_20) nin0))
          replace E_b8_20 := E_b8_20.keep Kq247
          replace V_b8_20 := V_b8_20.keep Kq247 (ninS (Ne.symm ne_b17_b8_20) (ninS (Ne.symm ne_b18_b8_20) nin0))
          replace E_b10_20 := E_b10_20.keep Kq247
          replace V_b10_20 := V_b10_20.keep Kq247 (ninS (Ne.symm ne_b17_b10_20) (ninS (Ne.symm ne_b18_b10_20) nin0))
          have V_b17 : Ary tr Z h247 b17 .double [(.double (0 : UInt64)), (.double v244)] := by rw [← q_v244]; exact gq247_0
          have V_b18 : Ary tr Z h247 b18 .int [(.int (0 : Int32)), (.int n245)] := by rw [← q_n245]; exact gq247_1
          replace Z0 := Nat.le_trans Z0 Kq247.1
          refine own_aload X247 hx hby rfl rfl at_189 (pc' := 191) rfl ?_
          refine own_iconst X247 hx hby (v := (0 : Int32)) (by decide) at_191 (pc' := 192) rfl ?_
          refine own_dload X247 hx hby rfl at_192 (pc' := 194) rfl ?_
          refine own_virtual X247 hx hby hZ (y := (⟨"com/example/bidfold/bidfold/Branching", "leansIn", "(ID)Z"⟩ : MethodName)) (y' := (⟨"com/example/bidfold/bidfold/Branching", "leansIn", "(ID)Z"⟩ : MethodName)) (C := "com/example/bidfold/bidfold/Branching") (rest := []) hown (hw _ (List.mem_of_getElem? (i := 42) rfl)) (hw _ (List.mem_of_getElem? (i := 43) rfl)) (notFace_of_selects (args := #[]) (mvT hZ (hw _ (List.mem_of_getElem? (i := 45) rfl)))) (hw _ (List.mem_of_getElem? (i := 45) rfl)) (hw _ (List.mem_of_getElem? (i := 44) rfl)) (hw _ (List.mem_of_getElem? (i := 46) rfl)) (hw _ (List.mem_of_getElem? (i := 10) rfl)) (by decide) (rm50 l Z a0 hw [] b19 v14 b8_20 b10_20 (0 : UInt64) v211 (0 : Int32) n212 b4_20 b6_20 (0 : UInt64) v244 (0 : Int32) n245 h247 n0 Z0 F_b19_upFalls F_b19_upCounts V_b8_20 V_b10_20 F_b19_downFalls F_b19_downCounts V_b4_20 V_b6_20 (fun h => (own_fq (own_bn0 40) (by decide) h).nn) P1.nn ((own_fpu (own_bn0 40) (by decide)).mul P1 (by decide)).nn (fun h => (own_fq (own_bn0 40) (by decide) h).nn) ((own_fpu (own_bn0 40) (by decide)).mul P0 (by decide)).nn) eH247 (by rw [hml]; rfl) (a := b19) E_b19 (argsL := [(.int (0 : Int32)), (.double v14)]) rfl (lenOf pd_4 rfl) rfl at_194 (pc' := 197) rfl (by decide) (W := 0) (Nat.le_of_eq rfl) (by decide) (by decide) (by decide) (fun T248 h248 Lc248 v248r X248 eH248 hQ248 => ?_)
          obtain ⟨rfl, Nq248, rfl⟩ := hQ248
          have N248 := Fr.app N247 Nq248
          dsimp only [Option.toList, List.cons_append, List.nil_append]
          generalize q_r249 : (if dle (FP.dmul (if 0 < (0 : Int32) then (FP.ddiv (0 : UInt64) (FP.i2d (0 : Int32))) else (4607182418800017408 : UInt64)) (FP.dsub (4607182418800017408 : UInt64) v14)) (FP.dmul (if 0 < (0 : Int32) then (FP.ddiv (0 : UInt64) (FP.i2d (0 : Int32))) else (4607182418800017408 : UInt64)) v14) then (1 : Int32) else (0 : Int32)) = r249
          refine own_iconst X248 hx hby (v := (0 : Int32)) (by decide) at_197 (pc' := 198) rfl ?_
          refine own_dload X248 hx hby rfl at_198 (pc' := 200) rfl ?_
          refine own_aload X248 hx hby rfl rfl at_200 (pc' := 202) rfl ?_
          refine own_aload X248 hx hby rfl rfl at_202 (pc' := 204) rfl ?_
          refine own_aload X248 hx hby rfl rfl at_204 (pc' := 206) rfl ?_
          refine own_aload X248 hx hby rfl rfl at_206 (pc' := 208) rfl ?_
          refine own_static X248 hx hby hZ (y := (⟨"com/example/bidfold/bidfold/BranchingLearnPinLaw", "expect", "(ID[D[I[D[I)Z"⟩ : MethodName)) (rest := [(.int r249)]) hown (hw _ (List.mem_of_getElem? (i := 50) rfl)) (hw _ (List.mem_of_getElem? (i := 51) rfl)) (hw _ (List.mem_of_getElem? (i := 52) rfl)) (hw _ (List.mem_of_getElem? (i := 39) rfl)) (by decide) (rm70 l Z a0 hw [] v14 b15 b16 b17 b18 (0 : UInt64) v211 (0 : Int32) n212 (0 : UInt64) v244 (0 : Int32) n245 h247 n0 Z0 V_b15 V_b16 V_b17 V_b18 (fun h => (own_fq (own_bn0 40) (by decide) h).nn) (fun h => (own_fq (own_bn0 40) (by decide) h).nn) P1.nn ((own_fpu (own_bn0 40) (by decide)).mul P1 (by decide)).nn ((own_fpu (own_bn0 40) (by decide)).mul P0 (by decide)).nn) eH248 (by rw [hml]; rfl) (argsL := [(.int (0 : Int32)), (.double v14), (.ref b15), (.ref b16), (.ref b17), (.ref b18)]) rfl (lenOf pd_5 rfl) rfl at_208 (pc' := 211) rfl (by decide) (W := 1) (Nat.le_of_eq rfl) (by decide) (by decide) (by decide) (fun T250 h250 Lc250 v250r X250 eH250 hQ250 => ?_)
          obtain ⟨rfl, Nq250, rfl⟩ := hQ250
          have N250 := Fr.app N248 Nq250
          dsimp only [Option.toList, List.cons_append, List.nil_append]
          generalize q_r251 : (if dle (FP.dmul (if 0 < (0 : Int32) then (FP.ddiv (0 : UInt64) (FP.i2d (0 : Int32))) else (4607182418800017408 : UInt64)) (FP.dsub (4607182418800017408 : UInt64) v14)) (FP.dmul (if 0 < (0 : Int32) then (FP.ddiv (0 : UInt64) (FP.i2d (0 : Int32))) else (4607182418800017408 : UInt64)) v14) then (1 : Int32) else (0 : Int32)) = r251
          have hk252 : r249 = r251 := q_r249.symm.trans q_r251
          refine own_icF X250 hx hby at_211 (own_ic_ne_p hk252) (pc' := 214) rfl ?_
          refine own_aload X250 hx hby rfl rfl at_214 (pc' := 216) rfl ?_
          refine own_iconst X250 hx hby (v := (1 : Int32)) (by decide) at_216 (pc' := 217) rfl ?_
          refine own_dload X250 hx hby rfl at_217 (pc' := 219) rfl ?_
          refine own_virtual X250 hx hby hZ (y := (⟨"com/example/bidfold/bidfold/Branching", "leansIn", "(ID)Z"⟩ : MethodName)) (y' := (⟨"com/example/bidfold/bidfold/Branching", "leansIn", "(ID)Z"⟩ : MethodName)) (C := "com/example/bidfold/bidfold/Branching") (rest := []) hown (hw _ (List.mem_of_getElem? (i := 42) rfl)) (hw _ (List.mem_of_getElem? (i := 43) rfl)) (notFace_of_selects (args := #[]) (mvT hZ (hw _ (List.mem_of_getElem? (i := 45) rfl)))) (hw _ (List.mem_of_getElem? (i := 45) rfl)) (hw _ (List.mem_of_getElem? (i := 44) rfl)) (hw _ (List.mem_of_getElem? (i := 46) rfl)) (hw _ (List.mem_of_getElem? (i := 10) rfl)) (by decide) (rm51 l Z a0 hw [] b19 v14 b8_20 b10_20 (0 : UInt64) v211 (0 : Int32) n212 b4_20 b6_20 (0 : UInt64) v244 (0 : Int32) n245 h247 n0 Z0 F_b19_upFalls F_b19_upCounts V_b8_20 V_b10_20 F_b19_downFalls F_b19_downCounts V_b4_20 V_b6_20 (fun h => (own_fq B_v211 (by decide) h).nn) P1.nn ((own_fpu B_v211 (by decide)).mul P1 (by decide)).nn (fun h => (own_fq B_v244 (by decide) h).nn) ((own_fpu B_v244 (by decide)).mul P0 (by decide)).nn) eH250 (by rw [hml]; rfl) (a := b19) E_b19 (argsL := [(.int (1 : Int32)), (.double v14)]) rfl (lenOf pd_4 rfl) rfl at_219 (pc' := 222) rfl (by decide) (W := 0) (Nat.le_of_eq rfl) (by decide) (by decide) (by decide) (fun T253 h253 Lc253 v253r X253 eH253 hQ253 => ?_)
          obtain ⟨rfl, Nq253, rfl⟩ := hQ253
          have N253 := Fr.app N250 Nq253
          dsimp only [Option.toList, List.cons_append, List.nil_append]
          generalize q_r254 : (if dle (FP.dmul (if 0 < n212 then (FP.ddiv v211 (FP.i2d n212)) else (4607182418800017408 : UInt64)) (FP.dsub (4607182418800017408 : UInt64) v14)) (FP.dmul (if 0 < n245 then (FP.ddiv v244 (FP.i2d n245)) else (4607182418800017408 : UInt64)) v14) then (1 : Int32) else (0 : Int32)) = r254
          refine own_iconst X253 hx hby (v := (1 : Int32)) (by decide) at_222 (pc' := 223) rfl ?_
          refine own_dload X253 hx hby rfl at_223 (pc' := 225) rfl ?_
          refine own_aload X253 hx hby rfl rfl at_225 (pc' := 227) rfl ?_
          refine own_aload X253 hx hby rfl rfl at_227 (pc' := 229) rfl ?_
          refine own_aload X253 hx hby rfl rfl at_229 (pc' := 231) rfl ?_
          refine own_aload X253 hx hby rfl rfl at_231 (pc' := 233) rfl ?_
          refine own_static X253 hx hby hZ (y := (⟨"com/example/bidfold/bidfold/BranchingLearnPinLaw", "expect", "(ID[D[I[D[I)Z"⟩ : MethodName)) (rest := [(.int r254)]) hown (hw _ (List.mem_of_getElem? (i := 50) rfl)) (hw _ (List.mem_of_getElem? (i := 51) rfl)) (hw _ (List.mem_of_getElem? (i := 52) rfl)) (hw _ (List.mem_of_getElem? (i := 39) rfl)) (by decide) (rm71 l Z a0 hw [] v14 b15 b16 b17 b18 (0 : UInt64) v211 (0 : Int32) n212 (0 : UInt64) v244 (0 : Int32) n245 h247 n0 Z0 V_b15 V_b16 V_b17 V_b18 (fun h => (own_fq B_v211 (by decide) h).nn) (fun h => (own_fq B_v244 (by decide) h).nn) P1.nn ((own_fpu B_v211 (by decide)).mul P1 (by decide)).nn ((own_fpu B_v244 (by decide)).mul P0 (by decide)).nn) eH253 (by rw [hml]; rfl) (argsL := [(.int (1 : Int32)), (.double v14), (.ref b15), (.ref b16), (.ref b17), (.ref b18)]) rfl (lenOf pd_5 rfl) rfl at_233 (pc' := 236) rfl (by decide) (W := 1) (Nat.le_of_eq rfl) (by decide) (by decide) (by decide) (fun T255 h255 Lc255 v255r X255 eH255 hQ255 => ?_)
          obtain ⟨rfl, Nq255, rfl⟩ := hQ255
          have N255 := Fr.app N253 Nq255
          dsimp only [Option.toList, List.cons_append, List.nil_append]
          generalize q_r256 : (if dle (FP.dmul (if 0 < n212 then (FP.ddiv v211 (FP.i2d n212)) else (4607182418800017408 : UInt64)) (FP.dsub (4607182418800017408 : UInt64) v14)) (FP.dmul (if 0 < n245 then (FP.ddiv v244 (FP.i2d n245)) else (4607182418800017408 : UInt64)) v14) then (1 : Int32) else (0 : Int32)) = r256
          have hk257 : r254 = r256 := q_r254.symm.trans q_r256
          refine own_icF X255 hx hby at_236 (own_ic_ne_p hk257) (pc' := 239) rfl ?_
          refine own_iconst X255 hx hby (v := (1 : Int32)) (by decide) at_239 (pc' := 240) rfl ?_
          refine own_goto X255 hx hby at_240 (by decide) (pc' := 244) (by decide) ?_
          exact own_retZ X255 hx hby Bd.notSynchronized Bd.returns (Or.inr rfl) at_244 (by decide) (by decide) eH255 ⟨rfl, N255⟩
        · refine own_iload X210 hx hby rfl at_140 (pc' := 142) rfl ?_
          refine own_iload X210 hx hby rfl at_142 (pc' := 144) rfl ?_
          refine own_dload X210 hx hby rfl at_144 (pc' := 146) rfl ?_
          refine own_dload X210 hx hby rfl at_146 (pc' := 148) rfl ?_
          refine own_virtual X210 hx hby hZ (y := (⟨"com/example/bidfold/bidfold/Branching", "learn", "(IZDD)V"⟩ : MethodName)) (y' := (⟨"com/example/bidfold/bidfold/Branching", "learn", "(IZDD)V"⟩ : MethodName)) (C := "com/example/bidfold/bidfold/Branching") (rest := []) hown (hw _ (List.mem_of_getElem? (i := 31) rfl)) (hw _ (List.mem_of_getElem? (i := 32) rfl)) (notFace_of_selects (args := #[]) (mvT hZ (hw _ (List.mem_of_getElem? (i := 34) rfl)))) (hw _ (List.mem_of_getElem? (i := 34) rfl)) (hw _ (List.mem_of_getElem? (i := 33) rfl)) (hw _ (List.mem_of_getElem? (i := 35) rfl)) (hw _ (List.mem_of_getElem? (i := 10) rfl)) (by decide) (rm311 l Z a0 hw [] b19 v11 v12 b8_20 b10_20 (0 : UInt64) v211 (0 : Int32) n212 h210 n0 Z0 F_b19_upFalls F_b19_upCounts V_b8_20 V_b10_20 (fun h1 h2 => (own_lu D_v11 D_v12 (own_fr _) B_v211 (by decide) h1 h2).1) (fun h1 h2 => (own_lu D_v11 D_v12 (own_fr _) B_v211 (by decide) h1 h2).2.1) (fun h1 h2 => (own_lu D_v11 D_v12 (own_fr _) B_v211 (by decide) h1 h2).2.2.1) g_b8_20 ne_b19_b8_20 (Ne.symm ne_b8_20_b10_20) g_b10_20 ne_b19_b10_20) eH210 (by rw [hml]; rfl) (a := b19) E_b19 (argsL := [(.int (1 : Int32)), (.int (1 : Int32)), (.double v11), (.double v12)]) rfl (lenOf pd_2 rfl) rfl at_148 (pc' := 151) rfl (by decide) (W := 0) (Nat.le_of_eq rfl) (by decide) (by decide) (by decide) (fun T258 h258 Lc258 v258r X258 eH258 hQ258 => ?_)
          obtain ⟨rfl, Nq258, Kq258, gq258_0, gq258_1⟩ := hQ258
          have N258 := Fr.app N210 Nq258
          replace E_b15 := E_b15.keep Kq258
          replace V_b15 := V_b15.keep Kq258 (ninS ne_b15_b8_20 (ninS ne_b15_b10_20 nin0))
          replace E_b16 := E_b16.keep Kq258
          replace V_b16 := V_b16.keep Kq258 (ninS ne_b16_b8_20 (ninS ne_b16_b10_20 nin0))
          replace E_b17 := E_b17.keep Kq258
          replace V_b17 := V_b17.keep Kq258 (ninS ne_b17_b8_20 (ninS ne_b17_b10_20 nin0))
          replace E_b18 := E_b18.keep Kq258
          replace V_b18 := V_b18.keep Kq258 (ninS ne_b18_b8_20 (ninS ne_b18_b10_20 nin0))
          replace E_b19 := E_b19.keep Kq258
          replace F_b19_downFalls := F_b19_downFalls.keep Kq258 (ninS ne_b19_b8_20 (ninS ne_b19_b10_20 nin0))
          replace F_b19_downCounts := F_b19_downCounts.keep Kq258 (ninS ne_b19_b8_20 (ninS ne_b19_b10_20 nin0))
          replace F_b19_upFalls := F_b19_upFalls.keep Kq258 (ninS ne_b19_b8_20 (ninS ne_b19_b10_20 nin0))
          replace F_b19_upCounts := F_b19_upCounts.keep Kq258 (ninS ne_b19_b8_20 (ninS ne_b19_b10_20 nin0))
          replace E_b4_20 := E_b4_20.keep Kq258
          replace V_b4_20 := V_b4_20.keep Kq258 (ninS ne_b4_20_b8_20 (ninS ne_b4_20_b10_20 nin0))
          replace E_b6_20 := E_b6_20.keep Kq258
          replace V_b6_20 := V_b6_20.keep Kq258 (ninS ne_b6_20_b8_20 (ninS ne_b6_20_b10_20 nin0))
          replace E_b8_20 := E_b8_20.keep Kq258
          replace E_b10_20 := E_b10_20.keep Kq258
          obtain ⟨v259, q_v259⟩ : ∃ z : UInt64, (if dle v11 (4517329193108106637 : UInt64) then v211 else (if dge v11 (4607182409792818153 : UInt64) then v211 else (FP.dadd v211 (FP.ddiv v12 (FP.dsub (4607182418800017408 : UInt64) v11))))) = z := ⟨_, rfl⟩
          have V_b8_20 : Ary tr Z h258 b8_20 .double [(.double (0 : UInt64)), (.double v259)] := by rw [← q_v259]; exact gq258_0
          obtain ⟨n260, q_n260⟩ : ∃ z : Int32, (if dle v11 (4517329193108106637 : UInt64) then n212 else (if dge v11 (4607182409792818153 : UInt64) then n212 else (n212 + (1 : Int32)))) = z := ⟨_, rfl⟩
          have V_b10_20 : Ary tr Z h258 b10_20 .int [(.int (0 : Int32)), (.int n260)] := by rw [← q_n260]; exact gq258_1
          replace Z0 := Nat.le_trans Z0 Kq258.1
          have B_v259 : Bn v259 42 := q_v259 ▸ own_tr B_v211 (fun h1 h2 => (own_lu D_v11 D_v12 (own_fr _) B_v211 (by decide) h1 h2).2.2.2)
          refine own_iload X258 hx hby rfl at_151 (pc' := 153) rfl ?_
          refine own_iload X258 hx hby rfl at_153 (pc' := 155) rfl ?_
          refine own_dload X258 hx hby rfl at_155 (pc' := 157) rfl ?_
          refine own_dload X258 hx hby rfl at_157 (pc' := 159) rfl ?_
          refine own_aload X258 hx hby rfl rfl at_159 (pc' := 161) rfl ?_
          refine own_aload X258 hx hby rfl rfl at_161 (pc' := 163) rfl ?_
          refine own_aload X258 hx hby rfl rfl at_163 (pc' := 165) rfl ?_
          refine own_aload X258 hx hby rfl rfl at_165 (pc' := 167) rfl ?_
          refine own_static X258 hx hby hZ (y := (⟨"com/example/bidfold/bidfold/BranchingLearnPinLaw", "model", "(IZDD[D[I[D[I)V"⟩ : MethodName)) (rest := []) hown (hw _ (List.mem_of_getElem? (i := 37) rfl)) (hw _ (List.mem_of_getElem? (i := 38) rfl)) (hw _ (List.mem_of_getElem? (i := 40) rfl)) (hw _ (List.mem_of_getElem? (i := 39) rfl)) (by decide) (rm411 l Z a0 hw [] v5 v6 b15 b16 b17 b18 (0 : UInt64) (0 : UInt64) (0 : Int32) (0 : Int32) h258 n0 Z0 V_b15 V_b16 (fun h1 h2 => (own_lu D_v5 D_v6 (own_fr _) (own_bn0 40) (by decide) h1 h2).1) (fun h1 h2 => (own_lu D_v5 D_v6 (own_fr _) (own_bn0 40) (by decide) h1 h2).2.1) (fun h1 h2 => (own_lu D_v5 D_v6 (own_fr _) (own_bn0 40) (by decide) h1 h2).2.2.1) g_b15 (Ne.symm ne_b15_b16) g_b16) eH258 (by rw [hml]; rfl) (argsL := [(.int (1 : Int32)), (.int (1 : Int32)), (.double v5), (.double v6), (.ref b15), (.ref b16), (.ref b17), (.ref b18)]) rfl (lenOf pd_3 rfl) rfl at_167 (pc' := 170) rfl (by decide) (W := 0) (Nat.le_of_eq rfl) (by decide) (by decide) (by decide) (fun T261 h261 Lc261 v261r X261 eH261 hQ261 => ?_)
          obtain ⟨rfl, Nq261, Kq261, gq261_0, gq261_1⟩ := hQ261
          have N261 := Fr.app N258 Nq261
          replace E_b15 := E_b15.keep Kq261
          replace E_b16 := E_b16.keep Kq261
          replace E_b17 := E_b17.keep Kq261
          replace V_b17 := V_b17.keep Kq261 (ninS (Ne.symm ne_b15_b17) (ninS (Ne.symm ne_b16_b17) nin0))
          replace E_b18 := E_b18.keep Kq261
          replace V_b18 := V_b18.keep Kq261 (ninS (Ne.symm ne_b15_b18) (ninS (Ne.symm ne_b16_b18) nin0))
          replace E_b19 := E_b19.keep Kq261
          replace F_b19_downFalls := F_b19_downFalls.keep Kq261 (ninS (Ne.symm ne_b15_b19) (ninS (Ne.symm ne_b16_b19) nin0))
          replace F_b19_downCounts := F_b19_downCounts.keep Kq261 (ninS (Ne.symm ne_b15_b19) (ninS (Ne.symm ne_b16_b19) nin0))
          replace F_b19_upFalls := F_b19_upFalls.keep Kq261 (ninS (Ne.symm ne_b15_b19) (ninS (Ne.symm ne_b16_b19) nin0))
          replace F_b19_upCounts := F_b19_upCounts.keep Kq261 (ninS (Ne.symm ne_b15_b19) (ninS (Ne.symm ne_b16_b19) nin0))
          replace E_b4_20 := E_b4_20.keep Kq261
          replace V_b4_20 := V_b4_20.keep Kq261 (ninS (Ne.symm ne_b15_b4_20) (ninS (Ne.symm ne_b16_b4_20) nin0))
          replace E_b6_20 := E_b6_20.keep Kq261
          replace V_b6_20 := V_b6_20.keep Kq261 (ninS (Ne.symm ne_b15_b6_20) (ninS (Ne.symm ne_b16_b6_20) nin0))
          replace E_b8_20 := E_b8_20.keep Kq261
          replace V_b8_20 := V_b8_20.keep Kq261 (ninS (Ne.symm ne_b15_b8_20) (ninS (Ne.symm ne_b16_b8_20) nin0))
          replace E_b10_20 := E_b10_20.keep Kq261
          replace V_b10_20 := V_b10_20.keep Kq261 (ninS (Ne.symm ne_b15_b10_20) (ninS (Ne.symm ne_b16_b10_20) nin0))
          have V_b15 : Ary tr Z h261 b15 .double [(.double (0 : UInt64)), (.double v211)] := by rw [← q_v211]; exact gq261_0
          have V_b16 : Ary tr Z h261 b16 .int [(.int (0 : Int32)), (.int n212)] := by rw [← q_n212]; exact gq261_1
          replace Z0 := Nat.le_trans Z0 Kq261.1
          refine own_iload X261 hx hby rfl at_170 (pc' := 172) rfl ?_
          refine own_iload X261 hx hby rfl at_172 (pc' := 174) rfl ?_
          refine own_dload X261 hx hby rfl at_174 (pc' := 176) rfl ?_
          refine own_dload X261 hx hby rfl at_176 (pc' := 178) rfl ?_
          refine own_aload X261 hx hby rfl rfl at_178 (pc' := 180) rfl ?_
          refine own_aload X261 hx hby rfl rfl at_180 (pc' := 182) rfl ?_
          refine own_aload X261 hx hby rfl rfl at_182 (pc' := 184) rfl ?_
          refine own_aload X261 hx hby rfl rfl at_184 (pc' := 186) rfl ?_
          refine own_static X261 hx hby hZ (y := (⟨"com/example/bidfold/bidfold/BranchingLearnPinLaw", "model", "(IZDD[D[I[D[I)V"⟩ : MethodName)) (rest := []) hown (hw _ (List.mem_of_getElem? (i := 37) rfl)) (hw _ (List.mem_of_getElem? (i := 38) rfl)) (hw _ (List.mem_of_getElem? (i := 40) rfl)) (hw _ (List.mem_of_getElem? (i := 39) rfl)) (by decide) (rm411 l Z a0 hw [] v11 v12 b15 b16 b17 b18 (0 : UInt64) v211 (0 : Int32) n212 h261 n0 Z0 V_b15 V_b16 (fun h1 h2 => (own_lu D_v11 D_v12 (own_fr _) B_v211 (by decide) h1 h2).1) (fun h1 h2 => (own_lu D_v11 D_v12 (own_fr _) B_v211 (by decide) h1 h2).2.1) (fun h1 h2 => (own_lu D_v11 D_v12 (own_fr _) B_v211 (by decide) h1 h2).2.2.1) g_b15 (Ne.symm ne_b15_b16) g_b16) eH261 (by rw [hml]; rfl) (argsL := [(.int (1 : Int32)), (.int (1 : Int32)), (.double v11), (.double v12), (.ref b15), (.ref b16), (.ref b17), (.ref b18)]) rfl (lenOf pd_3 rfl) rfl at_186 (pc' := 189) rfl (by decide) (W := 0) (Nat.le_of_eq rfl) (by decide) (by decide) (by decide) (fun T262 h262 Lc262 v262r X262 eH262 hQ262 => ?_)
          obtain ⟨rfl, Nq262, Kq262, gq262_0, gq262_1⟩ := hQ262
          have N262 := Fr.app N261 Nq262
          replace E_b15 := E_b15.keep Kq262
          replace E_b16 := E_b16.keep Kq262
          replace E_b17 := E_b17.keep Kq262
          replace V_b17 := V_b17.keep Kq262 (ninS (Ne.symm ne_b15_b17) (ninS (Ne.symm ne_b16_b17) nin0))
          replace E_b18 := E_b18.keep Kq262
          replace V_b18 := V_b18.keep Kq262 (ninS (Ne.symm ne_b15_b18) (ninS (Ne.symm ne_b16_b18) nin0))
          replace E_b19 := E_b19.keep Kq262
          replace F_b19_downFalls := F_b19_downFalls.keep Kq262 (ninS (Ne.symm ne_b15_b19) (ninS (Ne.symm ne_b16_b19) nin0))
          replace F_b19_downCounts := F_b19_downCounts.keep Kq262 (ninS (Ne.symm ne_b15_b19) (ninS (Ne.symm ne_b16_b19) nin0))
          replace F_b19_upFalls := F_b19_upFalls.keep Kq262 (ninS (Ne.symm ne_b15_b19) (ninS (Ne.symm ne_b16_b19) nin0))
          replace F_b19_upCounts := F_b19_upCounts.keep Kq262 (ninS (Ne.symm ne_b15_b19) (ninS (Ne.symm ne_b16_b19) nin0))
          replace E_b4_20 := E_b4_20.keep Kq262
          replace V_b4_20 := V_b4_20.keep Kq262 (ninS (Ne.symm ne_b15_b4_20) (ninS (Ne.symm ne_b16_b4_20) nin0))
          replace E_b6_20 := E_b6_20.keep Kq262
          replace V_b6_20 := V_b6_20.keep Kq262 (ninS (Ne.symm ne_b15_b6_20) (ninS (Ne.symm ne_b16_b6_20) nin0))
          replace E_b8_20 := E_b8_20.keep Kq262
          replace V_b8_20 := V_b8_20.keep Kq262 (ninS (Ne.symm ne_b15_b8_20) (ninS (Ne.symm ne_b16_b8_20) nin0))
          replace E_b10_20 := E_b10_20.keep Kq262
          replace V_b10_20 := V_b10_20.keep Kq262 (ninS (Ne.symm ne_b15_b10_20) (ninS (Ne.symm ne_b16_b10_20) nin0))
          have V_b15 : Ary tr Z h262 b15 .double [(.double (0 : UInt64)), (.double v259)] := by rw [← q_v259]; exact gq262_0
          have V_b16 : Ary tr Z h262 b16 .int [(.int (0 : Int32)), (.int n260)] := by rw [← q_n260]; exact gq262_1
          replace Z0 := Nat.le_trans Z0 Kq262.1
          refine own_aload X262 hx hby rfl rfl at_189 (pc' := 191) rfl ?_
          refine own_iconst X262 hx hby (v := (0 : Int32)) (by decide) at_191 (pc' := 192) rfl ?_
          refine own_dload X262 hx hby rfl at_192 (pc' := 194) rfl ?_
          refine own_virtual X262 hx hby hZ (y := (⟨"com/example/bidfold/bidfold/Branching", "leansIn", "(ID)Z"⟩ : MethodName)) (y' := (⟨"com/example/bidfold/bidfold/Branching", "leansIn", "(ID)Z"⟩ : MethodName)) (C := "com/example/bidfold/bidfold/Branching") (rest := []) hown (hw _ (List.mem_of_getElem? (i := 42) rfl)) (hw _ (List.mem_of_getElem? (i := 43) rfl)) (notFace_of_selects (args := #[]) (mvT hZ (hw _ (List.mem_of_getElem? (i := 45) rfl)))) (hw _ (List.mem_of_getElem? (i := 45) rfl)) (hw _ (List.mem_of_getElem? (i := 44) rfl)) (hw _ (List.mem_of_getElem? (i := 46) rfl)) (hw _ (List.mem_of_getElem? (i := 10) rfl)) (by decide) (rm50 l Z a0 hw [] b19 v14 b8_20 b10_20 (0 : UInt64) v259 (0 : Int32) n260 b4_20 b6_20 (0 : UInt64) (0 : UInt64) (0 : Int32) (0 : Int32) h262 n0 Z0 F_b19_upFalls F_b19_upCounts V_b8_20 V_b10_20 F_b19_downFalls F_b19_downCounts V_b4_20 V_b6_20 (fun h => (own_fq (own_bn0 40) (by decide) h).nn) P1.nn ((own_fpu (own_bn0 40) (by decide)).mul P1 (by decide)).nn (fun h => (own_fq (own_bn0 40) (by decide) h).nn) ((own_fpu (own_bn0 40) (by decide)).mul P0 (by decide)).nn) eH262 (by rw [hml]; rfl) (a := b19) E_b19 (argsL := [(.int (0 : Int32)), (.double v14)]) rfl (lenOf pd_4 rfl) rfl at_194 (pc' := 197) rfl (by decide) (W := 0) (Nat.le_of_eq rfl) (by decide) (by decide) (by decide) (fun T263 h263 Lc263 v263r X263 eH263 hQ263 => ?_)
          obtain ⟨rfl, Nq263, rfl⟩ := hQ263
          have N263 := Fr.app N262 Nq263
          dsimp only [Option.toList, List.cons_append, List.nil_append]
          generalize q_r264 : (if dle (FP.dmul (if 0 < (0 : Int32) then (FP.ddiv (0 : UInt64) (FP.i2d (0 : Int32))) else (4607182418800017408 : UInt64)) (FP.dsub (4607182418800017408 : UInt64) v14)) (FP.dmul (if 0 < (0 : Int32) then (FP.ddiv (0 : UInt64) (FP.i2d (0 : Int32))) else (4607182418800017408 : UInt64)) v14) then (1 : Int32) else (0 : Int32)) = r264
          refine own_iconst X263 hx hby (v := (0 : Int32)) (by decide) at_197 (pc' := 198) rfl ?_
          refine own_dload X263 hx hby rfl at_198 (pc' := 200) rfl ?_
          refine own_aload X263 hx hby rfl rfl at_200 (pc' := 202) rfl ?_
          refine own_aload X263 hx hby rfl rfl at_202 (pc' := 204) rfl ?_
          refine own_aload X263 hx hby rfl rfl at_204 (pc' := 206) rfl ?_
          refine own_aload X263 hx hby rfl rfl at_206 (pc' := 208) rfl ?_
          refine own_static X263 hx hby hZ (y := (⟨"com/example/bidfold/bidfold/BranchingLearnPinLaw", "expect", "(ID[D[I[D[I)Z"⟩ : MethodName)) (rest := [(.int r264)]) hown (hw _ (List.mem_of_getElem? (i := 50) rfl)) (hw _ (List.mem_of_getElem? (i := 51) rfl)) (hw _ (List.mem_of_getElem? (i := 52) rfl)) (hw _ (List.mem_of_getElem? (i := 39) rfl)) (by decide) (rm70 l Z a0 hw [] v14 b15 b16 b17 b18 (0 : UInt64) v259 (0 : Int32) n260 (0 : UInt64) (0 : UInt64) (0 : Int32) (0 : Int32) h262 n0 Z0 V_b15 V_b16 V_b17 V_b18 (fun h => (own_fq (own_bn0 40) (by decide) h).nn) (fun h => (own_fq (own_bn0 40) (by decide) h).nn) P1.nn ((own_fpu (own_bn0 40) (by decide)).mul P1 (by decide)).nn ((own_fpu (own_bn0 40) (by decide)).mul P0 (by decide)).nn) eH263 (by rw [hml]; rfl) (argsL := [(.int (0 : Int32)), (.double v14), (.ref b15), (.ref b16), (.ref b17), (.ref b18)]) rfl (lenOf pd_5 rfl) rfl at_208 (pc' := 211) rfl (by decide) (W := 1) (Nat.le_of_eq rfl) (by decide) (by decide) (by decide) (fun T265 h265 Lc265 v265r X265 eH265 hQ265 => ?_)
          obtain ⟨rfl, Nq265, rfl⟩ := hQ265
          have N265 := Fr.app N263 Nq265
          dsimp only [Option.toList, List.cons_append, List.nil_append]
          generalize q_r266 : (if dle (FP.dmul (if 0 < (0 : Int32) then (FP.ddiv (0 : UInt64) (FP.i2d (0 : Int32))) else (4607182418800017408 : UInt64)) (FP.dsub (4607182418800017408 : UInt64) v14)) (FP.dmul (if 0 < (0 : Int32) then (FP.ddiv (0 : UInt64) (FP.i2d (0 : Int32))) else (4607182418800017408 : UInt64)) v14) then (1 : Int32) else (0 : Int32)) = r266
          have hk267 : r264 = r266 := q_r264.symm.trans q_r266
          refine own_icF X265 hx hby at_211 (own_ic_ne_p hk267) (pc' := 214) rfl ?_
          refine own_aload X265 hx hby rfl rfl at_214 (pc' := 216) rfl ?_
          refine own_iconst X265 hx hby (v := (1 : Int32)) (by decide) at_216 (pc' := 217) rfl ?_
          refine own_dload X265 hx hby rfl at_217 (pc' := 219) rfl ?_
          refine own_virtual X265 hx hby hZ (y := (⟨"com/example/bidfold/bidfold/Branching", "leansIn", "(ID)Z"⟩ : MethodName)) (y' := (⟨"com/example/bidfold/bidfold/Branching", "leansIn", "(ID)Z"⟩ : MethodName)) (C := "com/example/bidfold/bidfold/Branching") (rest := []) hown (hw _ (List.mem_of_getElem? (i := 42) rfl)) (hw _ (List.mem_of_getElem? (i := 43) rfl)) (notFace_of_selects (args := #[]) (mvT hZ (hw _ (List.mem_of_getElem? (i := 45) rfl)))) (hw _ (List.mem_of_getElem? (i := 45) rfl)) (hw _ (List.mem_of_getElem? (i := 44) rfl)) (hw _ (List.mem_of_getElem? (i := 46) rfl)) (hw _ (List.mem_of_getElem? (i := 10) rfl)) (by decide) (rm51 l Z a0 hw [] b19 v14 b8_20 b10_20 (0 : UInt64) v259 (0 : Int32) n260 b4_20 b6_20 (0 : UInt64) (0 : UInt64) (0 : Int32) (0 : Int32) h262 n0 Z0 F_b19_upFalls F_b19_upCounts V_b8_20 V_b10_20 F_b19_downFalls F_b19_downCounts V_b4_20 V_b6_20 (fun h => (own_fq B_v259 (by decide) h).nn) P1.nn ((own_fpu B_v259 (by decide)).mul P1 (by decide)).nn (fun h => (own_fq (own_bn0 40) (by decide) h).nn) ((own_fpu (own_bn0 40) (by decide)).mul P0 (by decide)).nn) eH265 (by rw [hml]; rfl) (a := b19) E_b19 (argsL := [(.int (1 : Int32)), (.double v14)]) rfl (lenOf pd_4 rfl) rfl at_219 (pc' := 222) rfl (by decide) (W := 0) (Nat.le_of_eq rfl) (by decide) (by decide) (by decide) (fun T268 h268 Lc268 v268r X268 eH268 hQ268 => ?_)
          obtain ⟨rfl, Nq268, rfl⟩ := hQ268
          have N268 := Fr.app N265 Nq268
          dsimp only [Option.toList, List.cons_append, List.nil_append]
          generalize q_r269 : (if dle (FP.dmul (if 0 < n260 then (FP.ddiv v259 (FP.i2d n260)) else (4607182418800017408 : UInt64)) (FP.dsub (4607182418800017408 : UInt64) v14)) (FP.dmul (if 0 < (0 : Int32) then (FP.ddiv (0 : UInt64) (FP.i2d (0 : Int32))) else (4607182418800017408 : UInt64)) v14) then (1 : Int32) else (0 : Int32)) = r269
          refine own_iconst X268 hx hby (v := (1 : Int32)) (by decide) at_222 (pc' := 223) rfl ?_
          refine own_dload X268 hx hby rfl at_223 (pc' := 225) rfl ?_
          refine own_aload X268 hx hby rfl rfl at_225 (pc' := 227) rfl ?_
          refine own_aload X268 hx hby rfl rfl at_227 (pc' := 229) rfl ?_
          refine own_aload X268 hx hby rfl rfl at_229 (pc' := 231) rfl ?_
          refine own_aload X268 hx hby rfl rfl at_231 (pc' := 233) rfl ?_
          refine own_static X268 hx hby hZ (y := (⟨"com/example/bidfold/bidfold/BranchingLearnPinLaw", "expect", "(ID[D[I[D[I)Z"⟩ : MethodName)) (rest := [(.int r269)]) hown (hw _ (List.mem_of_getElem? (i := 50) rfl)) (hw _ (List.mem_of_getElem? (i := 51) rfl)) (hw _ (List.mem_of_getElem? (i := 52) rfl)) (hw _ (List.mem_of_getElem? (i := 39) rfl)) (by decide) (rm71 l Z a0 hw [] v14 b15 b16 b17 b18 (0 : UInt64) v259 (0 : Int32) n260 (0 : UInt64) (0 : UInt64) (0 : Int32) (0 : Int32) h262 n0 Z0 V_b15 V_b16 V_b17 V_b18 (fun h => (own_fq B_v259 (by decide) h).nn) (fun h => (own_fq (own_bn0 40) (by decide) h).nn) P1.nn ((own_fpu B_v259 (by decide)).mul P1 (by decide)).nn ((own_fpu (own_bn0 40) (by decide)).mul P0 (by decide)).nn) eH268 (by rw [hml]; rfl) (argsL := [(.int (1 : Int32)), (.double v14), (.ref b15), (.ref b16), (.ref b17), (.ref b18)]) rfl (lenOf pd_5 rfl) rfl at_233 (pc' := 236) rfl (by decide) (W := 1) (Nat.le_of_eq rfl) (by decide) (by decide) (by decide) (fun T270 h270 Lc270 v270r X270 eH270 hQ270 => ?_)
          obtain ⟨rfl, Nq270, rfl⟩ := hQ270
          have N270 := Fr.app N268 Nq270
          dsimp only [Option.toList, List.cons_append, List.nil_append]
          generalize q_r271 : (if dle (FP.dmul (if 0 < n260 then (FP.ddiv v259 (FP.i2d n260)) else (4607182418800017408 : UInt64)) (FP.dsub (4607182418800017408 : UInt64) v14)) (FP.dmul (if 0 < (0 : Int32) then (FP.ddiv (0 : UInt64) (FP.i2d (0 : Int32))) else (4607182418800017408 : UInt64)) v14) then (1 : Int32) else (0 : Int32)) = r271
          have hk272 : r269 = r271 := q_r269.symm.trans q_r271
          refine own_icF X270 hx hby at_236 (own_ic_ne_p hk272) (pc' := 239) rfl ?_
          refine own_iconst X270 hx hby (v := (1 : Int32)) (by decide) at_239 (pc' := 240) rfl ?_
          refine own_goto X270 hx hby at_240 (by decide) (pc' := 244) (by decide) ?_
          exact own_retZ X270 hx hby Bd.notSynchronized Bd.returns (Or.inr rfl) at_244 (by decide) (by decide) eH270 ⟨rfl, N270⟩
set_option maxRecDepth 65536 in
set_option maxHeartbeats 40000000 in
theorem comes_1 {Post : Tables → Env → Array Value → State → Outcome → State → Prop} (hpost : ∀ tb e args s v u, (limb_1_1.after args s (.returned v) u = true ∧ limb_1_2.after args s (.returned v) u = true ∧ True) → FrameEnd s (.returned v) u (Jvm.fieldLocs frame_1_writes args s ++ Jvm.arrayLocs frame_1_arrays args s ++ Jvm.staticLocs frame_1_statics s) 32 128 → Post tb e args s (.returned v) u) :
    ArmFor flags0 classFile x code maxLocals ret World_1 tables_1 room_1 Calls_1 rest_1 Pre_1 Post := by
  intro l hfl _ _ p e ha hc hk s m args below hf hA hF happ hP
  obtain ⟨hcalls, hrest, hpre⟩ := hP
  obtain ⟨-, -, -, hnamed, -, -, -, hat⟩ := (Spec.applies_iff hf).mp happ
  obtain ⟨hg, hn⟩ := and_e (Cond.before_iff.mp (show (Jvm.Cond.and given_1 narrow_1).before args s = true from hpre))
  obtain ⟨gg1, gg2⟩ := and_e hg
  obtain ⟨gg3, gg4⟩ := and_e gg2
  obtain ⟨gg5, gg6⟩ := and_e gg4
  obtain ⟨gg7, gg8⟩ := and_e gg6
  obtain ⟨gg9, gg10⟩ := and_e gg8
  obtain ⟨w0, w1, w2, w3, w4, rfl⟩ : ∃ w0 w1 w2 w3 w4 : Value, args = #[w0, w1, w2, w3, w4] := by
    have hs : args.size = 5 := by simpa [Cond.value, given_1] using gg1
    obtain ⟨L⟩ := args
    match L, hs with
    | [w0, w1, w2, w3, w4], _ => exact ⟨w0, w1, w2, w3, w4, rfl⟩
  have hw := fun d (hd : d ∈ tables_1) => atoms_spec (ws := Jvm.Cond.code x code maxLocals ret :: tables_1) hat d (List.mem_cons_of_mem _ hd)
  have hfit : Fit s := fun {y c} hc i hi => by
    obtain ⟨ha, rfl⟩ := Array.getElem?_eq_some_iff.mp hc
    have q := List.all_eq_true.mp ((Array.all_eq_true_iff_forall_mem.mp hF) _ (Array.getElem_mem ha)) i (List.mem_range.mpr hi)
    simpa [Array.getElem?_eq_getElem hi] using q
  obtain ⟨i0, ei0⟩ := is_v gg3
  obtain rfl : w0 = (.int i0) := Option.some.inj ei0
  obtain ⟨i1, ei1⟩ := is_v gg5
  obtain rfl : w1 = (.int i1) := Option.some.inj ei1
  obtain ⟨i2, ei2⟩ := is_v gg7
  obtain rfl : w2 = (.int i2) := Option.some.inj ei2
  obtain ⟨i3, ei3⟩ := is_v gg9
  obtain rfl : w3 = (.int i3) := Option.some.inj ei3
  obtain ⟨i4, ei4⟩ := is_v gg10
  obtain rfl : w4 = (.int i4) := Option.some.inj ei4
  obtain ⟨n, o, h1, h2, h3, _, L, rfl, ⟨rfl, N⟩, hq⟩ := rm0 l s _ hw tables_1 i0 i1 i2 i3 i4 s.heap s.heap.size (Nat.le_refl _) p e ha hc hk s m _ below hf ((Spec.applies_iff_loose hf).mp happ).1 ⟨rfl, State.Warmed39.refl s, rfl⟩ trivial
  refine ⟨n, _, h1, h2, h3, hpost _ _ _ _ _ _ ⟨Cond.after_iff.mpr rfl, Cond.after_iff.mpr (eq_i res_at (Term.int_eval (1)) rfl), trivial⟩ ⟨hq.1, hq.2.1, (hq.2.2.sift fun y hy => Or.inr (N y hy)).mono (by decide) (by decide)⟩⟩
theorem main_1_1 : Claimed_1_1 := comes_1 fun _ _ _ _ _ _ h hF => ⟨h.1, hF⟩
theorem main_1_2 : Claimed_1_2 := comes_1 fun _ _ _ _ _ _ h hF => ⟨h.2.1, hF⟩
end Jvm.Pilot.@@N@@
namespace Jvm.Pilot.@@N@@
open Jvm Jvm.ClassFile Sem Op Lib Jvm.Free Jvm.Stand Jvm.Pilot.@@N@@.Jvm.D
/-! MADE BY PROGRAM (witnessworld.py) out of the Statement's table words and the real class files: 11 classes; the members and pool entries that the words name. The judged class is class 1, her method 1. -/
namespace start1
open Jvm.ClassFile
def u (s : String) : CpInfo := .utf8 (stringToUtf16 s)
/-- a pool by its gaps: so many unusable entries, then the entry; so many at the end -/
def gap : Nat → List CpInfo → List CpInfo
  | 0, r => r
  | n + 1, r => .unusable :: gap n r
def poolList (es : List (Nat × CpInfo)) (last : Nat) : List CpInfo := es.foldr (fun e r => gap e.1 (e.2 :: r)) (gap last [])
def pool (es : List (Nat × CpInfo)) (last : Nat) : Array CpInfo := ⟨poolList es last⟩
def fileOf (pool : Array CpInfo) (this : Nat) (attrs : Array Attribute := #[]) (ms : Array MethodInfo := #[]) (fl : Nat := 33) (sup : Nat := 0) (ifs : Array Nat := #[]) (fds : Array FieldInfo := #[]) : ClassFile where
  minorVersion := 0
  majorVersion := 65
  constantPool := pool
  accessFlags := fl
  thisClass := this
  superClass := sup
  interfaces := ifs
  fields := fds
  methods := ms
  attributes := attrs
def plain (name : String) (sup : Option ClassId) : Class where
  name := name
  kind := .ordinary
  loader := none
  accessFlags := 33
  super := sup
  interfaces := #[]
  cf := none
  fields := #[]
  methods := #[]
  instanceTypes := #[]
  staticTypes := #[]
  resolved := #[]
  callSites := []
  init := .initialized
  statics := none
  mirror := none

def pool0 : Array CpInfo := pool [(5, u "<init>"), (0, u "()V"), (1, .class_ 10), (1, u "java/lang/Object")] 113

def k0c0 : Code := { maxStack := 0, maxLocals := 1, code := object_method_1_code, exceptionTable := #[], attributes := #[] }
def k0m0 : Method := { name := "<init>", desc := "()V", sig := { parameters := [], returnType := none }, accessFlags := 1, code := some k0c0 }
/-- java/lang/Object -/
def k0 : Class := { plain "java/lang/Object" none with
  accessFlags := 33
  interfaces := #[]
  cf := some (fileOf pool0 8 #[] #[{ accessFlags := 1, nameIndex := 5, descriptorIndex := 6, attributes := #[] }] 33 0 #[] #[])
  fields := #[]
  methods := #[k0m0]
  instanceTypes := #[]
  staticTypes := #[]
  resolved := Array.replicate 124 none
  statics := none }

def pool1 : Array CpInfo := pool [(2, .class_ 4), (1, u "java/lang/Object"), (0, u "<init>"), (0, u "()V"), (0, .integer 2097151), (0, .integer 524288), (0, .double 4697254411347427328), (1, .integer 1048575), (0, .integer 65535), (0, .double 4679239875398991872), (1, .class_ 16), (0, u "com/example/bidfold/bidfold/Branching"), (0, .methodref 15 18), (0, .nameAndType 5 19), (0, u "(IJ)V"), (0, .methodref 15 21), (0, .nameAndType 22 23), (0, u "learn"), (0, u "(IZDD)V"), (0, .methodref 25 26), (0, .class_ 27), (0, .nameAndType 28 29), (0, u "com/example/bidfold/bidfold/BranchingLearnPinLaw"), (0, u "model"), (0, u "(IZDD[D[I[D[I)V"), (0, .methodref 15 31), (0, .nameAndType 32 33), (0, u "leansIn"), (0, u "(ID)Z"), (0, .methodref 25 35), (0, .nameAndType 36 37), (0, u "expect"), (0, u "(ID[D[I[D[I)Z"), (0, .double 4517329193108106637), (1, .double 4607182409792818153), (3, u "law"), (0, u "(IIIII)Z")] 7

def k1m0 : Method := { name := "<init>", desc := "()V", sig := { parameters := [], returnType := none }, accessFlags := 1, code := none }
def k1c1 : Code := { maxStack := 10, maxLocals := 24, code := code, exceptionTable := #[], attributes := #[] }
def k1m1 : Method := { name := "law", desc := "(IIIII)Z", sig := { parameters := [.int, .int, .int, .int, .int], returnType := some .boolean }, accessFlags := 9, code := some k1c1 }
def k1c2 : Code := { maxStack := 10, maxLocals := 10, code := method_3_code, exceptionTable := #[], attributes := #[] }
def k1m2 : Method := { name := "model", desc := "(IZDD[D[I[D[I)V", sig := { parameters := [.int, .boolean, .double, .double, (.array .double), (.array .int), (.array .double), (.array .int)], returnType := none }, accessFlags := 10, code := some k1c2 }
def k1c3 : Code := { maxStack := 6, maxLocals := 11, code := method_4_code, exceptionTable := #[], attributes := #[] }
def k1m3 : Method := { name := "expect", desc := "(ID[D[I[D[I)Z", sig := { parameters := [.int, .double, (.array .double), (.array .int), (.array .double), (.array .int)], returnType := some .boolean }, accessFlags := 10, code := some k1c3 }
/-- com/example/bidfold/bidfold/BranchingLearnPinLaw -/
def k1 : Class := { plain "com/example/bidfold/bidfold/BranchingLearnPinLaw" (some 0) with
  accessFlags := 49
  interfaces := #[]
  cf := some (fileOf pool1 25 #[] #[{ accessFlags := 1, nameIndex := 5, descriptorIndex := 6, attributes := #[] }, { accessFlags := 9, nameIndex := 44, descriptorIndex := 45, attributes := #[] }, { accessFlags := 10, nameIndex := 28, descriptorIndex := 29, attributes := #[] }, { accessFlags := 10, nameIndex := 36, descriptorIndex := 37, attributes := #[] }] 49 2 #[] #[])
  fields := #[]
  methods := #[k1m0, k1m1, k1m2, k1m3]
  instanceTypes := #[]
  staticTypes := #[]
  resolved := Array.replicate 53 none
  statics := none }

def pool2 : Array CpInfo := pool [(1, .methodref 2 3), (0, .class_ 4), (0, .nameAndType 5 6), (0, u "java/lang/Object"), (0, u "<init>"), (0, u "()V"), (0, .fieldref 8 9), (0, .class_ 10), (0, .nameAndType 11 12), (0, u "com/example/bidfold/bidfold/Branching"), (0, u "count"), (0, u "I"), (0, .fieldref 8 14), (0, .nameAndType 15 16), (0, u "least"), (0, u "J"), (0, .fieldref 8 18), (0, .nameAndType 19 20), (0, u "downFalls"), (0, u "[D"), (0, .fieldref 8 22), (0, .nameAndType 23 24), (0, u "downCounts"), (0, u "[I"), (0, .fieldref 8 26), (0, .nameAndType 27 20), (0, u "upFalls"), (0, .fieldref 8 29), (0, .nameAndType 30 24), (0, u "upCounts"), (0, .fieldref 8 32), (0, .nameAndType 33 24), (0, u "branchable"), (12, .double 4517329193108106637), (1, .double 4607182409792818153), (14, .methodref 8 64), (0, .nameAndType 65 66), (0, u "fallPerUnit"), (0, u "([D[IID)D"), (60, u "trialObjective"), (0, u "D"), (13, u "kept"), (0, u "Lcom/example/bidfold/bidfold/DualSimplex$State;"), (32, u "FIXED"), (2, u "RELIABLE"), (1, u "MAX_TRIED"), (1, u "LOOKAHEAD"), (0, u "TRIAL_PIVOTS"), (1, u "(IJ)V"), (6, u "learn"), (0, u "(IZDD)V"), (0, u "leansIn"), (0, u "(ID)Z")] 40

def k2c0 : Code := { maxStack := 3, maxLocals := 4, code := prog_13_method_1_code, exceptionTable := #[], attributes := #[] }
def k2m0 : Method := { name := "<init>", desc := "(IJ)V", sig := { parameters := [.int, .long], returnType := none }, accessFlags := 0, code := some k2c0 }
def k2c1 : Code := { maxStack := 10, maxLocals := 7, code := prog_13_method_3_code, exceptionTable := #[], attributes := #[] }
def k2m1 : Method := { name := "learn", desc := "(IZDD)V", sig := { parameters := [.int, .boolean, .double, .double], returnType := none }, accessFlags := 0, code := some k2c1 }
def k2c2 : Code := { maxStack := 7, maxLocals := 4, code := prog_13_method_4_code, exceptionTable := #[], attributes := #[] }
def k2m2 : Method := { name := "leansIn", desc := "(ID)Z", sig := { parameters := [.int, .double], returnType := some .boolean }, accessFlags := 0, code := some k2c2 }
def k2c3 : Code := { maxStack := 4, maxLocals := 5, code := prog_13_method_7_code, exceptionTable := #[], attributes := #[] }
def k2m3 : Method := { name := "fallPerUnit", desc := "([D[IID)D", sig := { parameters := [(.array .double), (.array .int), .int, .double], returnType := some .double }, accessFlags := 10, code := some k2c3 }
/-- com/example/bidfold/bidfold/Branching -/
def k2 : Class := { plain "com/example/bidfold/bidfold/Branching" (some 0) with
  accessFlags := 48
  interfaces := #[]
  cf := some (fileOf pool2 8 #[] #[{ accessFlags := 0, nameIndex := 5, descriptorIndex := 186, attributes := #[] }, { accessFlags := 0, nameIndex := 193, descriptorIndex := 194, attributes := #[] }, { accessFlags := 0, nameIndex := 195, descriptorIndex := 196, attributes := #[] }, { accessFlags := 10, nameIndex := 65, descriptorIndex := 66, attributes := #[] }] 48 2 #[] #[{ accessFlags := 24, nameIndex := 176, descriptorIndex := 12, attributes := #[] }, { accessFlags := 26, nameIndex := 179, descriptorIndex := 12, attributes := #[] }, { accessFlags := 26, nameIndex := 181, descriptorIndex := 12, attributes := #[] }, { accessFlags := 26, nameIndex := 183, descriptorIndex := 12, attributes := #[] }, { accessFlags := 26, nameIndex := 184, descriptorIndex := 12, attributes := #[] }, { accessFlags := 18, nameIndex := 11, descriptorIndex := 12, attributes := #[] }, { accessFlags := 18, nameIndex := 15, descriptorIndex := 16, attributes := #[] }, { accessFlags := 18, nameIndex := 19, descriptorIndex := 20, attributes := #[] }, { accessFlags := 18, nameIndex := 23, descriptorIndex := 24, attributes := #[] }, { accessFlags := 18, nameIndex := 27, descriptorIndex := 20, attributes := #[] }, { accessFlags := 18, nameIndex := 30, descriptorIndex := 24, attributes := #[] }, { accessFlags := 18, nameIndex := 33, descriptorIndex := 24, attributes := #[] }, { accessFlags := 2, nameIndex := 142, descriptorIndex := 143, attributes := #[] }, { accessFlags := 2, nameIndex := 127, descriptorIndex := 128, attributes := #[] }])
  fields := #[{ name := "FIXED", type := .int, accessFlags := 24, slot := 0, constantValue := 0 }, { name := "RELIABLE", type := .int, accessFlags := 26, slot := 1, constantValue := 0 }, { name := "MAX_TRIED", type := .int, accessFlags := 26, slot := 2, constantValue := 0 }, { name := "LOOKAHEAD", type := .int, accessFlags := 26, slot := 3, constantValue := 0 }, { name := "TRIAL_PIVOTS", type := .int, accessFlags := 26, slot := 4, constantValue := 0 }, { name := "count", type := .int, accessFlags := 18, slot := 0, constantValue := 0 }, { name := "least", type := .long, accessFlags := 18, slot := 1, constantValue := 0 }, { name := "downFalls", type := (.array .double), accessFlags := 18, slot := 2, constantValue := 0 }, { name := "downCounts", type := (.array .int), accessFlags := 18, slot := 3, constantValue := 0 }, { name := "upFalls", type := (.array .double), accessFlags := 18, slot := 4, constantValue := 0 }, { name := "upCounts", type := (.array .int), accessFlags := 18, slot := 5, constantValue := 0 }, { name := "branchable", type := (.array .int), accessFlags := 18, slot := 6, constantValue := 0 }, { name := "kept", type := (.object "com/example/bidfold/bidfold/DualSimplex$State"), accessFlags := 2, slot := 7, constantValue := 0 }, { name := "trialObjective", type := .double, accessFlags := 2, slot := 8, constantValue := 0 }]
  methods := #[k2m0, k2m1, k2m2, k2m3]
  instanceTypes := #[.int, .long, (.array .double), (.array .int), (.array .double), (.array .int), (.array .int), (.object "com/example/bidfold/bidfold/DualSimplex$State"), .double]
  staticTypes := #[.int, .int, .int, .int, .int]
  resolved := Array.replicate 237 none
  statics := none }

def pool3 : Array CpInfo := pool [(1, u "java/lang/Cloneable"), (0, .class_ 1), (0, u "java/lang/Object"), (0, .class_ 3)] 3

/-- java/lang/Cloneable -/
def k3 : Class := { plain "java/lang/Cloneable" (some 0) with
  accessFlags := 1537
  interfaces := #[]
  cf := some (fileOf pool3 2 #[] #[] 1537 4 #[] #[])
  fields := #[]
  methods := #[]
  instanceTypes := #[]
  staticTypes := #[]
  resolved := Array.replicate 8 none
  statics := none }

def pool4 : Array CpInfo := pool [(1, u "java/io/Serializable"), (0, .class_ 1), (0, u "java/lang/Object"), (0, .class_ 3)] 3

/-- java/io/Serializable -/
def k4 : Class := { plain "java/io/Serializable" (some 0) with
  accessFlags := 1537
  interfaces := #[]
  cf := some (fileOf pool4 2 #[] #[] 1537 4 #[] #[])
  fields := #[]
  methods := #[]
  instanceTypes := #[]
  staticTypes := #[]
  resolved := Array.replicate 8 none
  statics := none }

/-- the primitive byte -/
def k5 : Class := { plain "byte" none with kind := .primitive 'B', accessFlags := 0x411 }
/-- [B -/
def k6 : Class := { plain "[B" (some 0) with kind := .array 5 .byte, interfaces := #[3, 4], accessFlags := 1041 }

/-- the primitive double -/
def k7 : Class := { plain "double" none with kind := .primitive 'D', accessFlags := 0x411 }
/-- [D -/
def k8 : Class := { plain "[D" (some 0) with kind := .array 7 .double, interfaces := #[3, 4], accessFlags := 1041 }

/-- the primitive int -/
def k9 : Class := { plain "int" none with kind := .primitive 'I', accessFlags := 0x411 }
/-- [I -/
def k10 : Class := { plain "[I" (some 0) with kind := .array 9 .int, interfaces := #[3, 4], accessFlags := 1041 }

def heap : Heap := #[]
def classes : Array Class := #[k0, k1, k2, k3, k4, k5, k6, k7, k8, k9, k10]
def interned : List (Array UInt16 × Addr) := []
def slotsUsed : Nat := 0
def theMethod : MethodId := ⟨1, 1⟩
def args0 : Array Value := #[.int 5, .int 7, .int 9, .int 2, .int 3]
def aboutOver (below : List Frame) : State where
  vm := { classes := classes, interned := interned.toArray }
  heap := heap
  slotsUsed := slotsUsed
  threads := #[{ frames := .invoking theMethod args0 :: below }]
def below0 : List Frame := [.native { method := ⟨0, 0⟩, args := #[] }]
def about1 : State := aboutOver below0
def p0 : Program := .bare "" "" ""
def e0 : Env := launch0.env 0 0 0
theorem w_frames : about1.frames = Frame.invoking theMethod args0 :: below0 := rfl
set_option maxRecDepth 65536 in
theorem w_args : argsFit about1.vm theMethod args0 = true := by decide +kernel
set_option maxRecDepth 65536 in
theorem w_heap : heapFits about1 = true := by decide +kernel
set_option maxRecDepth 65536 in
theorem w_runnable : about1.curStatus? = some .runnable := by decide +kernel
set_option maxRecDepth 65536 in
theorem w_alone : about1.alone = true := by decide +kernel
set_option maxRecDepth 65536 in
theorem w_named : about1.methodNamed? x = some theMethod := by decide +kernel
set_option maxRecDepth 65536 in
theorem w_hears : about1.hears theMethod below0 = true := by decide +kernel
set_option maxRecDepth 65536 in
theorem w_ripe : about1.ripe theMethod args0 below0 = true := by decide +kernel
theorem w_running : about1.status = .running := rfl
set_option maxRecDepth 65536 in
theorem w_room : about1.hasRoom e0.platform room_1 = true :=
  launch0.hasRoom_least _ room_1 (by decide +kernel) (by decide +kernel) (by decide +kernel) (by decide +kernel) (by decide +kernel) (by decide +kernel)
theorem allAtoms_all (ts : List Jvm.Cond) (a : Array Jvm.Value) (st : Jvm.State) : (allAtoms ts).before a st = ts.all (fun c => c.before a st) := by
  induction ts with
  | nil => rfl
  | cons c t ih =>
    show (Jvm.Cond.and c (allAtoms t)).before a st = _
    rw [Jvm.Cond.before_and, ih, List.all_cons]
def words1 : List Jvm.Cond := Jvm.Cond.code x code maxLocals ret :: tables_1
/-- a 'code' word, met by the world's own term for the bytes: nothing is compared byte by byte -/
theorem code_word {y : MethodName} {bytes : ByteArray} {mx : Nat} {rt : Option FieldType} {a : Array Value} {s : State} {m : MethodId} {meth : Method} {c : Code} (h1 : s.methodNamed? y = some m) (h2 : s.vm.method? m = some meth) (h3 : meth.code = some c) (h4 : c.code = bytes)
    (h5 : (c.maxLocals == mx && c.exceptionTable.isEmpty && decide (c.maxStack ≤ mostOperands) && decide (meth.sig.returnType = rt) && !meth.locks && decide (parseMethodDescriptor y.desc = some meth.sig)) = true) : (Jvm.Cond.code y bytes mx rt).before a s = true := by
  simp only [Bool.and_eq_true, beq_iff_eq, Bool.not_eq_true', decide_eq_true_eq] at h5
  obtain ⟨⟨⟨⟨⟨g1, g2⟩, g3⟩, g4⟩, g5⟩, g6⟩ := h5
  simp [Cond.before, Cond.holds, Cond.value, h1, h2, h3, h4, g1, g2, g3, g4, g5, g6]
def isCode : Jvm.Cond → Bool
  | .code _ _ _ _ => true
  | _ => false
theorem all_split {L : List Jvm.Cond} {P : Jvm.Cond → Bool} (h1 : L.all (fun c => isCode c || P c) = true) (h2 : ∀ c ∈ L.filter isCode, P c = true) : L.all P = true := by
  refine List.all_eq_true.mpr fun c hc => ?_
  have h := List.all_eq_true.mp h1 c hc
  rcases Bool.eq_false_or_eq_true (isCode c) with hi | hi
  · exact h2 c (List.mem_filter.mpr ⟨hc, hi⟩)
  · simpa [hi] using h
set_option maxRecDepth 65536 in
theorem w_c0 : (Jvm.Cond.code x code maxLocals ret).before args0 about1 = true := code_word (m := ⟨1, 1⟩) (meth := k1m1) (c := k1c1) (by decide +kernel) rfl rfl rfl (by decide +kernel)
set_option maxRecDepth 65536 in
theorem w_c1 : (Jvm.Cond.code ({ cls := "com/example/bidfold/bidfold/Branching", name := "<init>", desc := "(IJ)V" } : Jvm.MethodName) prog_13_method_1_code (4 : Nat) (Option.none : Option Jvm.ClassFile.FieldType)).before args0 about1 = true := code_word (m := ⟨2, 0⟩) (meth := k2m0) (c := k2c0) (by decide +kernel) rfl rfl rfl (by decide +kernel)
set_option maxRecDepth 65536 in
theorem w_c2 : (Jvm.Cond.code ({ cls := "java/lang/Object", name := "<init>", desc := "()V" } : Jvm.MethodName) object_method_1_code (1 : Nat) (Option.none : Option Jvm.ClassFile.FieldType)).before args0 about1 = true := code_word (m := ⟨0, 0⟩) (meth := k0m0) (c := k0c0) (by decide +kernel) rfl rfl rfl (by decide +kernel)
set_option maxRecDepth 65536 in
theorem w_c3 : (Jvm.Cond.code ({ cls := "com/example/bidfold/bidfold/Branching", name := "learn", desc := "(IZDD)V" } : Jvm.MethodName) prog_13_method_3_code (7 : Nat) (Option.none : Option Jvm.ClassFile.FieldType)).before args0 about1 = true := code_word (m := ⟨2, 1⟩) (meth := k2m1) (c := k2c1) (by decide +kernel) rfl rfl rfl (by decide +kernel)
set_option maxRecDepth 65536 in
theorem w_c4 : (Jvm.Cond.code ({ cls := "com/example/bidfold/bidfold/BranchingLearnPinLaw", name := "model", desc := "(IZDD[D[I[D[I)V" } : Jvm.MethodName) method_3_code (10 : Nat) (Option.none : Option Jvm.ClassFile.FieldType)).before args0 about1 = true := code_word (m := ⟨1, 2⟩) (meth := k1m2) (c := k1c2) (by decide +kernel) rfl rfl rfl (by decide +kernel)
set_option maxRecDepth 65536 in
theorem w_c5 : (Jvm.Cond.code ({ cls := "com/example/bidfold/bidfold/Branching", name := "leansIn", desc := "(ID)Z" } : Jvm.MethodName) prog_13_method_4_code (4 : Nat) (Option.some Jvm.ClassFile.FieldType.boolean)).before args0 about1 = true := code_word (m := ⟨2, 2⟩) (meth := k2m2) (c := k2c2) (by decide +kernel) rfl rfl rfl (by decide +kernel)
set_option maxRecDepth 65536 in
theorem w_c6 : (Jvm.Cond.code ({ cls := "com/example/bidfold/bidfold/Branching", name := "fallPerUnit", desc := "([D[IID)D" } : Jvm.MethodName) prog_13_method_7_code (5 : Nat) (Option.some Jvm.ClassFile.FieldType.double)).before args0 about1 = true := code_word (m := ⟨2, 3⟩) (meth := k2m3) (c := k2c3) (by decide +kernel) rfl rfl rfl (by decide +kernel)
set_option maxRecDepth 65536 in
theorem w_c7 : (Jvm.Cond.code ({ cls := "com/example/bidfold/bidfold/BranchingLearnPinLaw", name := "expect", desc := "(ID[D[I[D[I)Z" } : Jvm.MethodName) method_4_code (11 : Nat) (Option.some Jvm.ClassFile.FieldType.boolean)).before args0 about1 = true := code_word (m := ⟨1, 3⟩) (meth := k1m3) (c := k1c3) (by decide +kernel) rfl rfl rfl (by decide +kernel)
def codes1 : List Jvm.Cond := [Jvm.Cond.code x code maxLocals ret, Jvm.Cond.code ({ cls := "com/example/bidfold/bidfold/Branching", name := "<init>", desc := "(IJ)V" } : Jvm.MethodName) prog_13_method_1_code (4 : Nat) (Option.none : Option Jvm.ClassFile.FieldType), Jvm.Cond.code ({ cls := "java/lang/Object", name := "<init>", desc := "()V" } : Jvm.MethodName) object_method_1_code (1 : Nat) (Option.none : Option Jvm.ClassFile.FieldType), Jvm.Cond.code ({ cls := "com/example/bidfold/bidfold/Branching", name := "learn", desc := "(IZDD)V" } : Jvm.MethodName) prog_13_method_3_code (7 : Nat) (Option.none : Option Jvm.ClassFile.FieldType), Jvm.Cond.code ({ cls := "com/example/bidfold/bidfold/BranchingLearnPinLaw", name := "model", desc := "(IZDD[D[I[D[I)V" } : Jvm.MethodName) method_3_code (10 : Nat) (Option.none : Option Jvm.ClassFile.FieldType), Jvm.Cond.code ({ cls := "com/example/bidfold/bidfold/Branching", name := "leansIn", desc := "(ID)Z" } : Jvm.MethodName) prog_13_method_4_code (4 : Nat) (Option.some Jvm.ClassFile.FieldType.boolean), Jvm.Cond.code ({ cls := "com/example/bidfold/bidfold/Branching", name := "fallPerUnit", desc := "([D[IID)D" } : Jvm.MethodName) prog_13_method_7_code (5 : Nat) (Option.some Jvm.ClassFile.FieldType.double), Jvm.Cond.code ({ cls := "com/example/bidfold/bidfold/BranchingLearnPinLaw", name := "expect", desc := "(ID[D[I[D[I)Z" } : Jvm.MethodName) method_4_code (11 : Nat) (Option.some Jvm.ClassFile.FieldType.boolean)]
set_option maxRecDepth 65536 in
theorem codes_eq : words1.filter isCode = codes1 := rfl
theorem w_codes : ∀ c ∈ words1.filter isCode, c.before args0 about1 = true := by
  rw [codes_eq]
  intro c hc
  simp only [codes1, List.mem_cons, List.not_mem_nil, or_false] at hc
  rcases hc with rfl | rfl | rfl | rfl | rfl | rfl | rfl | rfl
  · exact w_c0
  · exact w_c1
  · exact w_c2
  · exact w_c3
  · exact w_c4
  · exact w_c5
  · exact w_c6
  · exact w_c7
set_option maxRecDepth 65536 in
theorem w_t1 : (words1.take 24).all (fun c => isCode c || c.before args0 about1) = true := by decide +kernel
set_option maxRecDepth 65536 in
theorem w_t2 : ((words1.drop 24).take 24).all (fun c => isCode c || c.before args0 about1) = true := by decide +kernel
set_option maxRecDepth 65536 in
theorem w_t3 : ((words1.drop 24).drop 24).all (fun c => isCode c || c.before args0 about1) = true := by decide +kernel
theorem w_tables : (allAtoms (Jvm.Cond.code x code maxLocals ret :: tables_1)).before args0 about1 = true := by
  rw [allAtoms_all]
  show words1.all (fun c => c.before args0 about1) = true
  refine all_split ?_ w_codes
  rw [← List.take_append_drop 24 words1, List.all_append, w_t1, ← List.take_append_drop 24 (words1.drop 24), List.all_append, w_t2, w_t3]
  rfl
set_option maxRecDepth 65536 in
theorem w_case : (Jvm.Cond.and given_1 narrow_1).before args0 about1 = true := by decide +kernel
theorem w_applies : (headSpec (Jvm.Cond.code x code maxLocals ret :: tables_1) room_1).applies x e0.platform about1 = true :=
  (Spec.applies_iff w_frames).mpr ⟨w_running, w_runnable, w_alone, w_named, w_hears, w_ripe, w_room, w_tables⟩
theorem atStart : AtStart classFile x code maxLocals ret World_1 tables_1 room_1 Calls_1 rest_1 Pre_1 launch0 p0 e0 about1 theMethod args0 below0 :=
  ⟨lists_1, trivial, launch0.admits_env _ _ _, launch0.least_env, fairChoices_fair.cas, fairChoices_fair.clock, w_frames, w_args, w_heap, w_applies, trivial, trivial, w_case⟩
end start1
theorem witness_1 : WitnessClaimed_1 := ⟨start1.p0, start1.e0, start1.about1, start1.theMethod, start1.args0, start1.below0, start1.atStart⟩
end Jvm.Pilot.@@N@@
