import JvmDerived
import JvmDerived.Pilot.@@N@@Statement
import JvmDerived.Pilot.@@N@@Code
set_option linter.unusedVariables false
set_option linter.unusedSimpArgs false
namespace Jvm.Pilot.@@N@@
open Jvm Jvm.ClassFile Sem Op Lib Jvm.Free Jvm.Stand Jvm.LawKit Jvm.RoadKit Jvm.Free.Fl Bundle Jvm.Pilot.@@N@@.Jvm.D
section OwnG
variable {p : Program} {l : Launch} {e : Env} {R : Room} {s : State} {m : MethodId} {args : Array Value} {below : List Frame} {meth : Method} {c : Code} {T : State} {locs : List Loc} {cells slots : Nat} {Z : State} {a0 : Array Value} {h : Heap} {B : ByteArray} {pc pc' : Nat} {L L' : Array Slot} {rest : List Value} {F : Outcome → State → Prop}
def Gt (tb : Tables) (e : Env) (below : List Frame) (F : Outcome → State → Prop) (S : State) : Prop := ∃ s₂ o, Steps tb e below S s₂ ∧ s₂.status = .running ∧ Ended s₂ below o ∧ F o s₂
theorem Gt.go {tb : Tables} {S S' : State} (k : Gt tb e below F S') (q : ∀ t, Steps tb e below S' t → Steps tb e below S t) : Gt tb e below F S := by
  obtain ⟨a, o, h1, h2⟩ := k; exact ⟨a, o, q _ h1, h2⟩
theorem own_join {tb : Tables} {S S' : State} (q : ∀ F', Gt tb e below F' S' → Gt tb e below F' S) (k : Gt tb e below F S') : Gt tb e below F S := q F k
theorem own_cast {tb : Tables} {g g' : JFrame} (q : g = g') (k : Gt tb e below F (T.setTop g')) : Gt tb e below F (T.setTop g) := q ▸ k
theorem own_iadd (X : Stand p l e R s m args below meth c T locs cells slots) (hx : p.tables.exec = Jvm.exec) (hby : c.code = B) {x y v : Int32} (hv : x + y = v) (hd : decode B pc = .ok (.iadd, 1)) (hp : pc + 1 = pc') (k : Gt p.tables e below F (T.setTop (mkF m pc' L (.int v :: rest)))) : Gt p.tables e below F (T.setTop (mkF m pc L (.int y :: .int x :: rest))) := by
  subst hp; exact (by subst hv; exact k.go fun t q => XS.iadd X.here hx rfl (hb hby hd) rfl q)
theorem own_isub (X : Stand p l e R s m args below meth c T locs cells slots) (hx : p.tables.exec = Jvm.exec) (hby : c.code = B) {x y v : Int32} (hv : x - y = v) (hd : decode B pc = .ok (.isub, 1)) (hp : pc + 1 = pc') (k : Gt p.tables e below F (T.setTop (mkF m pc' L (.int v :: rest)))) : Gt p.tables e below F (T.setTop (mkF m pc L (.int y :: .int x :: rest))) := by
  subst hp; exact (by subst hv; exact k.go fun t q => XS.isub X.here hx rfl (hb hby hd) rfl q)
theorem own_imul (X : Stand p l e R s m args below meth c T locs cells slots) (hx : p.tables.exec = Jvm.exec) (hby : c.code = B) {x y v : Int32} (hv : x * y = v) (hd : decode B pc = .ok (.imul, 1)) (hp : pc + 1 = pc') (k : Gt p.tables e below F (T.setTop (mkF m pc' L (.int v :: rest)))) : Gt p.tables e below F (T.setTop (mkF m pc L (.int y :: .int x :: rest))) := by
  subst hp; exact (by subst hv; exact k.go fun t q => XS.imul X.here hx rfl (hb hby hd) rfl q)
theorem own_iand (X : Stand p l e R s m args below meth c T locs cells slots) (hx : p.tables.exec = Jvm.exec) (hby : c.code = B) {x y v : Int32} (hv : x &&& y = v) (hd : decode B pc = .ok (.iand, 1)) (hp : pc + 1 = pc') (k : Gt p.tables e below F (T.setTop (mkF m pc' L (.int v :: rest)))) : Gt p.tables e below F (T.setTop (mkF m pc L (.int y :: .int x :: rest))) := by
  subst hp; exact (by subst hv; exact k.go fun t q => XS.iand X.here hx rfl (hb hby hd) rfl q)
theorem own_ior (X : Stand p l e R s m args below meth c T locs cells slots) (hx : p.tables.exec = Jvm.exec) (hby : c.code = B) {x y v : Int32} (hv : x ||| y = v) (hd : decode B pc = .ok (.ior, 1)) (hp : pc + 1 = pc') (k : Gt p.tables e below F (T.setTop (mkF m pc' L (.int v :: rest)))) : Gt p.tables e below F (T.setTop (mkF m pc L (.int y :: .int x :: rest))) := by
  subst hp; exact (by subst hv; exact k.go fun t q => XS.ior X.here hx rfl (hb hby hd) rfl q)
theorem own_ixor (X : Stand p l e R s m args below meth c T locs cells slots) (hx : p.tables.exec = Jvm.exec) (hby : c.code = B) {x y v : Int32} (hv : x ^^^ y = v) (hd : decode B pc = .ok (.ixor, 1)) (hp : pc + 1 = pc') (k : Gt p.tables e below F (T.setTop (mkF m pc' L (.int v :: rest)))) : Gt p.tables e below F (T.setTop (mkF m pc L (.int y :: .int x :: rest))) := by
  subst hp; exact (by subst hv; exact k.go fun t q => XS.ixor X.here hx rfl (hb hby hd) rfl q)
theorem own_ishl (X : Stand p l e R s m args below meth c T locs cells slots) (hx : p.tables.exec = Jvm.exec) (hby : c.code = B) {x y v : Int32} (hv : x <<< (y &&& 31) = v) (hd : decode B pc = .ok (.ishl, 1)) (hp : pc + 1 = pc') (k : Gt p.tables e below F (T.setTop (mkF m pc' L (.int v :: rest)))) : Gt p.tables e below F (T.setTop (mkF m pc L (.int y :: .int x :: rest))) := by
  subst hp; exact (by subst hv; exact k.go fun t q => XS.ishl X.here hx rfl (hb hby hd) rfl q)
theorem own_ishr (X : Stand p l e R s m args below meth c T locs cells slots) (hx : p.tables.exec = Jvm.exec) (hby : c.code = B) {x y v : Int32} (hv : x >>> (y &&& 31) = v) (hd : decode B pc = .ok (.ishr, 1)) (hp : pc + 1 = pc') (k : Gt p.tables e below F (T.setTop (mkF m pc' L (.int v :: rest)))) : Gt p.tables e below F (T.setTop (mkF m pc L (.int y :: .int x :: rest))) := by
  subst hp; exact (by subst hv; exact k.go fun t q => XS.ishr X.here hx rfl (hb hby hd) rfl q)
theorem own_iushr (X : Stand p l e R s m args below meth c T locs cells slots) (hx : p.tables.exec = Jvm.exec) (hby : c.code = B) {x y v : Int32} (hv : (x.toUInt32 >>> (y &&& 31).toUInt32).toInt32 = v) (hd : decode B pc = .ok (.iushr, 1)) (hp : pc + 1 = pc') (k : Gt p.tables e below F (T.setTop (mkF m pc' L (.int v :: rest)))) : Gt p.tables e below F (T.setTop (mkF m pc L (.int y :: .int x :: rest))) := by
  subst hp; exact (by subst hv; exact k.go fun t q => XS.iushr X.here hx rfl (hb hby hd) rfl q)
theorem own_ladd (X : Stand p l e R s m args below meth c T locs cells slots) (hx : p.tables.exec = Jvm.exec) (hby : c.code = B) {x y v : Int64} (hv : x + y = v) (hd : decode B pc = .ok (.ladd, 1)) (hp : pc + 1 = pc') (k : Gt p.tables e below F (T.setTop (mkF m pc' L (.long v :: rest)))) : Gt p.tables e below F (T.setTop (mkF m pc L (.long y :: .long x :: rest))) := by
  subst hp; exact (by subst hv; exact k.go fun t q => XS.ladd X.here hx rfl (hb hby hd) rfl q)
theorem own_lsub (X : Stand p l e R s m args below meth c T locs cells slots) (hx : p.tables.exec = Jvm.exec) (hby : c.code = B) {x y v : Int64} (hv : x - y = v) (hd : decode B pc = .ok (.lsub, 1)) (hp : pc + 1 = pc') (k : Gt p.tables e below F (T.setTop (mkF m pc' L (.long v :: rest)))) : Gt p.tables e below F (T.setTop (mkF m pc L (.long y :: .long x :: rest))) := by
  subst hp; exact (by subst hv; exact k.go fun t q => XS.lsub X.here hx rfl (hb hby hd) rfl q)
theorem own_lmul (X : Stand p l e R s m args below meth c T locs cells slots) (hx : p.tables.exec = Jvm.exec) (hby : c.code = B) {x y v : Int64} (hv : x * y = v) (hd : decode B pc = .ok (.lmul, 1)) (hp : pc + 1 = pc') (k : Gt p.tables e below F (T.setTop (mkF m pc' L (.long v :: rest)))) : Gt p.tables e below F (T.setTop (mkF m pc L (.long y :: .long x :: rest))) := by
  subst hp; exact (by subst hv; exact k.go fun t q => XS.lmul X.here hx rfl (hb hby hd) rfl q)
theorem own_land (X : Stand p l e R s m args below meth c T locs cells slots) (hx : p.tables.exec = Jvm.exec) (hby : c.code = B) {x y v : Int64} (hv : x &&& y = v) (hd : decode B pc = .ok (.land, 1)) (hp : pc + 1 = pc') (k : Gt p.tables e below F (T.setTop (mkF m pc' L (.long v :: rest)))) : Gt p.tables e below F (T.setTop (mkF m pc L (.long y :: .long x :: rest))) := by
  subst hp; exact (by subst hv; exact k.go fun t q => XS.land X.here hx rfl (hb hby hd) rfl q)
theorem own_lor (X : Stand p l e R s m args below meth c T locs cells slots) (hx : p.tables.exec = Jvm.exec) (hby : c.code = B) {x y v : Int64} (hv : x ||| y = v) (hd : decode B pc = .ok (.lor, 1)) (hp : pc + 1 = pc') (k : Gt p.tables e below F (T.setTop (mkF m pc' L (.long v :: rest)))) : Gt p.tables e below F (T.setTop (mkF m pc L (.long y :: .long x :: rest))) := by
  subst hp; exact (by subst hv; exact k.go fun t q => XS.lor X.here hx rfl (hb hby hd) rfl q)
theorem own_lxor (X : Stand p l e R s m args below meth c T locs cells slots) (hx : p.tables.exec = Jvm.exec) (hby : c.code = B) {x y v : Int64} (hv : x ^^^ y = v) (hd : decode B pc = .ok (.lxor, 1)) (hp : pc + 1 = pc') (k : Gt p.tables e below F (T.setTop (mkF m pc' L (.long v :: rest)))) : Gt p.tables e below F (T.setTop (mkF m pc L (.long y :: .long x :: rest))) := by
  subst hp; exact (by subst hv; exact k.go fun t q => XS.lxor X.here hx rfl (hb hby hd) rfl q)
theorem own_lshl (X : Stand p l e R s m args below meth c T locs cells slots) (hx : p.tables.exec = Jvm.exec) (hby : c.code = B) {x v : Int64} {y : Int32} (hv : x <<< (y &&& 0x3f).toInt64 = v) (hd : decode B pc = .ok (.lshl, 1)) (hp : pc + 1 = pc') (k : Gt p.tables e below F (T.setTop (mkF m pc' L (.long v :: rest)))) : Gt p.tables e below F (T.setTop (mkF m pc L (.int y :: .long x :: rest))) := by
  subst hp; exact (by subst hv; exact k.go fun t q => XS.lshl X.here hx rfl (hb hby hd) rfl q)
theorem own_lshr (X : Stand p l e R s m args below meth c T locs cells slots) (hx : p.tables.exec = Jvm.exec) (hby : c.code = B) {x v : Int64} {y : Int32} (hv : x >>> (y &&& 0x3f).toInt64 = v) (hd : decode B pc = .ok (.lshr, 1)) (hp : pc + 1 = pc') (k : Gt p.tables e below F (T.setTop (mkF m pc' L (.long v :: rest)))) : Gt p.tables e below F (T.setTop (mkF m pc L (.int y :: .long x :: rest))) := by
  subst hp; exact (by subst hv; exact k.go fun t q => XS.lshr X.here hx rfl (hb hby hd) rfl q)
theorem own_lushr (X : Stand p l e R s m args below meth c T locs cells slots) (hx : p.tables.exec = Jvm.exec) (hby : c.code = B) {x v : Int64} {y : Int32} (hv : (x.toUInt64 >>> (y &&& 0x3f).toInt64.toUInt64).toInt64 = v) (hd : decode B pc = .ok (.lushr, 1)) (hp : pc + 1 = pc') (k : Gt p.tables e below F (T.setTop (mkF m pc' L (.long v :: rest)))) : Gt p.tables e below F (T.setTop (mkF m pc L (.int y :: .long x :: rest))) := by
  subst hp; exact (by subst hv; exact k.go fun t q => XS.lushr X.here hx rfl (hb hby hd) rfl q)
theorem own_idiv (X : Stand p l e R s m args below meth c T locs cells slots) (hx : p.tables.exec = Jvm.exec) (hby : c.code = B) {x y v : Int32} (hy : y ≠ 0) (hv : x / y = v) (hd : decode B pc = .ok (.idiv, 1)) (hp : pc + 1 = pc') (k : Gt p.tables e below F (T.setTop (mkF m pc' L (.int v :: rest)))) : Gt p.tables e below F (T.setTop (mkF m pc L (.int y :: .int x :: rest))) := by
  subst hp; exact (by subst hv; exact k.go fun t q => XS.idiv X.here hx rfl (hb hby hd) rfl hy q)
theorem own_irem (X : Stand p l e R s m args below meth c T locs cells slots) (hx : p.tables.exec = Jvm.exec) (hby : c.code = B) {x y v : Int32} (hy : y ≠ 0) (hv : x % y = v) (hd : decode B pc = .ok (.irem, 1)) (hp : pc + 1 = pc') (k : Gt p.tables e below F (T.setTop (mkF m pc' L (.int v :: rest)))) : Gt p.tables e below F (T.setTop (mkF m pc L (.int y :: .int x :: rest))) := by
  subst hp; exact (by subst hv; exact k.go fun t q => iremM X hx rfl (hb hby hd) rfl hy q)
theorem own_ldiv (X : Stand p l e R s m args below meth c T locs cells slots) (hx : p.tables.exec = Jvm.exec) (hby : c.code = B) {x y v : Int64} (hy : y ≠ 0) (hv : x / y = v) (hd : decode B pc = .ok (.ldiv, 1)) (hp : pc + 1 = pc') (k : Gt p.tables e below F (T.setTop (mkF m pc' L (.long v :: rest)))) : Gt p.tables e below F (T.setTop (mkF m pc L (.long y :: .long x :: rest))) := by
  subst hp; exact (by subst hv; exact k.go fun t q => XS.ldiv X.here hx rfl (hb hby hd) rfl hy q)
theorem own_lrem (X : Stand p l e R s m args below meth c T locs cells slots) (hx : p.tables.exec = Jvm.exec) (hby : c.code = B) {x y v : Int64} (hy : y ≠ 0) (hv : x % y = v) (hd : decode B pc = .ok (.lrem, 1)) (hp : pc + 1 = pc') (k : Gt p.tables e below F (T.setTop (mkF m pc' L (.long v :: rest)))) : Gt p.tables e below F (T.setTop (mkF m pc L (.long y :: .long x :: rest))) := by
  subst hp; exact (by subst hv; rw [← lrem_mod] at k; exact k.go fun t q => XS.lrem X.here hx rfl (hb hby hd) rfl hy q)
theorem own_lcmp (X : Stand p l e R s m args below meth c T locs cells slots) (hx : p.tables.exec = Jvm.exec) (hby : c.code = B) {x y : Int64} {v : Int32} (hv : (if x > y then 1 else if x = y then 0 else -1 : Int32) = v) (hd : decode B pc = .ok (.lcmp, 1)) (hp : pc + 1 = pc') (k : Gt p.tables e below F (T.setTop (mkF m pc' L (.int v :: rest)))) : Gt p.tables e below F (T.setTop (mkF m pc L (.long y :: .long x :: rest))) := by
  subst hp; exact (by subst hv; exact k.go fun t q => XS.lcmp X.here hx rfl (hb hby hd) rfl q)
theorem own_ineg (X : Stand p l e R s m args below meth c T locs cells slots) (hx : p.tables.exec = Jvm.exec) (hby : c.code = B) {x v : Int32} (hv : -x = v) (hd : decode B pc = .ok (.ineg, 1)) (hp : pc + 1 = pc') (k : Gt p.tables e below F (T.setTop (mkF m pc' L (.int v :: rest)))) : Gt p.tables e below F (T.setTop (mkF m pc L (.int x :: rest))) := by
  subst hp; exact (by subst hv; exact k.go fun t q => XS.ineg X.here hx rfl (hb hby hd) rfl q)
theorem own_lneg (X : Stand p l e R s m args below meth c T locs cells slots) (hx : p.tables.exec = Jvm.exec) (hby : c.code = B) {x v : Int64} (hv : -x = v) (hd : decode B pc = .ok (.lneg, 1)) (hp : pc + 1 = pc') (k : Gt p.tables e below F (T.setTop (mkF m pc' L (.long v :: rest)))) : Gt p.tables e below F (T.setTop (mkF m pc L (.long x :: rest))) := by
  subst hp; exact (by subst hv; exact k.go fun t q => XS.lneg X.here hx rfl (hb hby hd) rfl q)
theorem own_i2b (X : Stand p l e R s m args below meth c T locs cells slots) (hx : p.tables.exec = Jvm.exec) (hby : c.code = B) {x v : Int32} (hv : x.toInt8.toInt32 = v) (hd : decode B pc = .ok (.i2b, 1)) (hp : pc + 1 = pc') (k : Gt p.tables e below F (T.setTop (mkF m pc' L (.int v :: rest)))) : Gt p.tables e below F (T.setTop (mkF m pc L (.int x :: rest))) := by
  subst hp; exact (by subst hv; exact k.go fun t q => XS.i2b X.here hx rfl (hb hby hd) rfl q)
theorem own_i2c (X : Stand p l e R s m args below meth c T locs cells slots) (hx : p.tables.exec = Jvm.exec) (hby : c.code = B) {x v : Int32} (hv : x.toUInt32.toUInt16.toUInt32.toInt32 = v) (hd : decode B pc = .ok (.i2c, 1)) (hp : pc + 1 = pc') (k : Gt p.tables e below F (T.setTop (mkF m pc' L (.int v :: rest)))) : Gt p.tables e below F (T.setTop (mkF m pc L (.int x :: rest))) := by
  subst hp; exact (by subst hv; exact k.go fun t q => XS.i2c X.here hx rfl (hb hby hd) rfl q)
theorem own_i2s (X : Stand p l e R s m args below meth c T locs cells slots) (hx : p.tables.exec = Jvm.exec) (hby : c.code = B) {x v : Int32} (hv : x.toInt16.toInt32 = v) (hd : decode B pc = .ok (.i2s, 1)) (hp : pc + 1 = pc') (k : Gt p.tables e below F (T.setTop (mkF m pc' L (.int v :: rest)))) : Gt p.tables e below F (T.setTop (mkF m pc L (.int x :: rest))) := by
  subst hp; exact (by subst hv; exact k.go fun t q => XS.i2s X.here hx rfl (hb hby hd) rfl q)
theorem own_i2l (X : Stand p l e R s m args below meth c T locs cells slots) (hx : p.tables.exec = Jvm.exec) (hby : c.code = B) {x : Int32} {v : Int64} (hv : x.toInt64 = v) (hd : decode B pc = .ok (.i2l, 1)) (hp : pc + 1 = pc') (k : Gt p.tables e below F (T.setTop (mkF m pc' L (.long v :: rest)))) : Gt p.tables e below F (T.setTop (mkF m pc L (.int x :: rest))) := by
  subst hp; exact (by subst hv; exact k.go fun t q => XS.i2l X.here hx rfl (hb hby hd) rfl q)
theorem own_l2i (X : Stand p l e R s m args below meth c T locs cells slots) (hx : p.tables.exec = Jvm.exec) (hby : c.code = B) {x : Int64} {v : Int32} (hv : x.toInt32 = v) (hd : decode B pc = .ok (.l2i, 1)) (hp : pc + 1 = pc') (k : Gt p.tables e below F (T.setTop (mkF m pc' L (.int v :: rest)))) : Gt p.tables e below F (T.setTop (mkF m pc L (.long x :: rest))) := by
  subst hp; exact (by subst hv; exact k.go fun t q => XS.l2i X.here hx rfl (hb hby hd) rfl q)
theorem own_iload (X : Stand p l e R s m args below meth c T locs cells slots) (hx : p.tables.exec = Jvm.exec) (hby : c.code = B) {i : Nat} {v : Int32} (hl : L[i]? = some (.val (.int v))) (hd : decode B pc = .ok (.iload i, 2)) (hp : pc + 2 = pc') (k : Gt p.tables e below F (T.setTop (mkF m pc' L (.int v :: rest)))) : Gt p.tables e below F (T.setTop (mkF m pc L rest)) := by
  subst hp; exact k.go fun t q => XS.iload X.here hx rfl (hb hby hd) hl q
theorem own_iloadN (X : Stand p l e R s m args below meth c T locs cells slots) (hx : p.tables.exec = Jvm.exec) (hby : c.code = B) {i : Fin 4} {v : Int32} (hl : L[i.val]? = some (.val (.int v))) (hd : decode B pc = .ok (.iload_n i, 1)) (hp : pc + 1 = pc') (k : Gt p.tables e below F (T.setTop (mkF m pc' L (.int v :: rest)))) : Gt p.tables e below F (T.setTop (mkF m pc L rest)) := by
  subst hp; exact k.go fun t q => XS.iloadN X.here hx rfl (hb hby hd) hl q
theorem own_lload (X : Stand p l e R s m args below meth c T locs cells slots) (hx : p.tables.exec = Jvm.exec) (hby : c.code = B) {i : Nat} {v : Int64} (hl : L[i]? = some (.val (.long v))) (hd : decode B pc = .ok (.lload i, 2)) (hp : pc + 2 = pc') (k : Gt p.tables e below F (T.setTop (mkF m pc' L (.long v :: rest)))) : Gt p.tables e below F (T.setTop (mkF m pc L rest)) := by
  subst hp; exact k.go fun t q => XS.lload X.here hx rfl (hb hby hd) hl q
theorem own_lloadN (X : Stand p l e R s m args below meth c T locs cells slots) (hx : p.tables.exec = Jvm.exec) (hby : c.code = B) {i : Fin 4} {v : Int64} (hl : L[i.val]? = some (.val (.long v))) (hd : decode B pc = .ok (.lload_n i, 1)) (hp : pc + 1 = pc') (k : Gt p.tables e below F (T.setTop (mkF m pc' L (.long v :: rest)))) : Gt p.tables e below F (T.setTop (mkF m pc L rest)) := by
  subst hp; exact k.go fun t q => XS.lloadN X.here hx rfl (hb hby hd) hl q
theorem own_dload (X : Stand p l e R s m args below meth c T locs cells slots) (hx : p.tables.exec = Jvm.exec) (hby : c.code = B) {i : Nat} {v : UInt64} (hl : L[i]? = some (.val (.double v))) (hd : decode B pc = .ok (.dload i, 2)) (hp : pc + 2 = pc') (k : Gt p.tables e below F (T.setTop (mkF m pc' L (.double v :: rest)))) : Gt p.tables e below F (T.setTop (mkF m pc L rest)) := by
  subst hp; exact k.go fun t q => XS.dload X.here hx rfl (hb hby hd) hl q
theorem own_dloadN (X : Stand p l e R s m args below meth c T locs cells slots) (hx : p.tables.exec = Jvm.exec) (hby : c.code = B) {i : Fin 4} {v : UInt64} (hl : L[i.val]? = some (.val (.double v))) (hd : decode B pc = .ok (.dload_n i, 1)) (hp : pc + 1 = pc') (k : Gt p.tables e below F (T.setTop (mkF m pc' L (.double v :: rest)))) : Gt p.tables e below F (T.setTop (mkF m pc L rest)) := by
  subst hp; exact k.go fun t q => XS.dloadN X.here hx rfl (hb hby hd) hl q
theorem own_aload (X : Stand p l e R s m args below meth c T locs cells slots) (hx : p.tables.exec = Jvm.exec) (hby : c.code = B) {i : Nat} {v : Value} (hl : L[i]? = some (.val v)) (hr : v.isRef = true) (hd : decode B pc = .ok (.aload i, 2)) (hp : pc + 2 = pc') (k : Gt p.tables e below F (T.setTop (mkF m pc' L (v :: rest)))) : Gt p.tables e below F (T.setTop (mkF m pc L rest)) := by
  subst hp; exact k.go fun t q => XS.aload X.here hx rfl (hb hby hd) hl hr q
theorem own_aloadN (X : Stand p l e R s m args below meth c T locs cells slots) (hx : p.tables.exec = Jvm.exec) (hby : c.code = B) {i : Fin 4} {v : Value} (hl : L[i.val]? = some (.val v)) (hr : v.isRef = true) (hd : decode B pc = .ok (.aload_n i, 1)) (hp : pc + 1 = pc') (k : Gt p.tables e below F (T.setTop (mkF m pc' L (v :: rest)))) : Gt p.tables e below F (T.setTop (mkF m pc L rest)) := by
  subst hp; exact k.go fun t q => XS.aloadN X.here hx rfl (hb hby hd) hl hr q
theorem own_istore (X : Stand p l e R s m args below meth c T locs cells slots) (hx : p.tables.exec = Jvm.exec) (hby : c.code = B) {i : Nat} {v : Int32} (hl : storeLocals L i (.int v) = some L') (hd : decode B pc = .ok (.istore i, 2)) (hp : pc + 2 = pc') (k : Gt p.tables e below F (T.setTop (mkF m pc' L' rest))) : Gt p.tables e below F (T.setTop (mkF m pc L (.int v :: rest))) := by
  subst hp; exact k.go fun t q => XS.istore X.here hx rfl (hb hby hd) rfl hl q
theorem own_istoreN (X : Stand p l e R s m args below meth c T locs cells slots) (hx : p.tables.exec = Jvm.exec) (hby : c.code = B) {i : Fin 4} {v : Int32} (hl : storeLocals L i.val (.int v) = some L') (hd : decode B pc = .ok (.istore_n i, 1)) (hp : pc + 1 = pc') (k : Gt p.tables e below F (T.setTop (mkF m pc' L' rest))) : Gt p.tables e below F (T.setTop (mkF m pc L (.int v :: rest))) := by
  subst hp; exact k.go fun t q => XS.istoreN X.here hx rfl (hb hby hd) rfl hl q
theorem own_lstore (X : Stand p l e R s m args below meth c T locs cells slots) (hx : p.tables.exec = Jvm.exec) (hby : c.code = B) {i : Nat} {v : Int64} (hl : storeLocals L i (.long v) = some L') (hd : decode B pc = .ok (.lstore i, 2)) (hp : pc + 2 = pc') (k : Gt p.tables e below F (T.setTop (mkF m pc' L' rest))) : Gt p.tables e below F (T.setTop (mkF m pc L (.long v :: rest))) := by
  subst hp; exact k.go fun t q => XS.lstore X.here hx rfl (hb hby hd) rfl hl q
theorem own_lstoreN (X : Stand p l e R s m args below meth c T locs cells slots) (hx : p.tables.exec = Jvm.exec) (hby : c.code = B) {i : Fin 4} {v : Int64} (hl : storeLocals L i.val (.long v) = some L') (hd : decode B pc = .ok (.lstore_n i, 1)) (hp : pc + 1 = pc') (k : Gt p.tables e below F (T.setTop (mkF m pc' L' rest))) : Gt p.tables e below F (T.setTop (mkF m pc L (.long v :: rest))) := by
  subst hp; exact k.go fun t q => XS.lstoreN X.here hx rfl (hb hby hd) rfl hl q
theorem own_dstore (X : Stand p l e R s m args below meth c T locs cells slots) (hx : p.tables.exec = Jvm.exec) (hby : c.code = B) {i : Nat} {v : UInt64} (hl : storeLocals L i (.double v) = some L') (hd : decode B pc = .ok (.dstore i, 2)) (hp : pc + 2 = pc') (k : Gt p.tables e below F (T.setTop (mkF m pc' L' rest))) : Gt p.tables e below F (T.setTop (mkF m pc L (.double v :: rest))) := by
  subst hp; exact k.go fun t q => XS.dstore X.here hx rfl (hb hby hd) rfl hl q
theorem own_dstoreN (X : Stand p l e R s m args below meth c T locs cells slots) (hx : p.tables.exec = Jvm.exec) (hby : c.code = B) {i : Fin 4} {v : UInt64} (hl : storeLocals L i.val (.double v) = some L') (hd : decode B pc = .ok (.dstore_n i, 1)) (hp : pc + 1 = pc') (k : Gt p.tables e below F (T.setTop (mkF m pc' L' rest))) : Gt p.tables e below F (T.setTop (mkF m pc L (.double v :: rest))) := by
  subst hp; exact k.go fun t q => XS.dstoreN X.here hx rfl (hb hby hd) rfl hl q
theorem own_astore (X : Stand p l e R s m args below meth c T locs cells slots) (hx : p.tables.exec = Jvm.exec) (hby : c.code = B) {i : Nat} {v : Value} (hr : v.isRef = true) (hl : storeLocals L i v = some L') (hd : decode B pc = .ok (.astore i, 2)) (hp : pc + 2 = pc') (k : Gt p.tables e below F (T.setTop (mkF m pc' L' rest))) : Gt p.tables e below F (T.setTop (mkF m pc L (v :: rest))) := by
  subst hp; exact k.go fun t q => XS.astore X.here hx rfl (hb hby hd) rfl hr hl q
theorem own_astoreN (X : Stand p l e R s m args below meth c T locs cells slots) (hx : p.tables.exec = Jvm.exec) (hby : c.code = B) {i : Fin 4} {v : Value} (hr : v.isRef = true) (hl : storeLocals L i.val v = some L') (hd : decode B pc = .ok (.astore_n i, 1)) (hp : pc + 1 = pc') (k : Gt p.tables e below F (T.setTop (mkF m pc' L' rest))) : Gt p.tables e below F (T.setTop (mkF m pc L (v :: rest))) := by
  subst hp; exact k.go fun t q => XS.astoreN X.here hx rfl (hb hby hd) rfl hr hl q
theorem own_iinc (X : Stand p l e R s m args below meth c T locs cells slots) (hx : p.tables.exec = Jvm.exec) (hby : c.code = B) {i : Nat} {cst : Int} {x : Int32} (hl : L[i]? = some (.val (.int x))) (hl' : storeLocals L i (.int (x + Int32.ofInt cst)) = some L') (hd : decode B pc = .ok (.iinc i cst, 3)) (hp : pc + 3 = pc') (k : Gt p.tables e below F (T.setTop (mkF m pc' L' rest))) : Gt p.tables e below F (T.setTop (mkF m pc L rest)) := by
  subst hp; exact k.go fun t q => XS.iinc X.here hx rfl (hb hby hd) hl hl' q
theorem own_iconst (X : Stand p l e R s m args below meth c T locs cells slots) (hx : p.tables.exec = Jvm.exec) (hby : c.code = B) {i : Int} {v : Int32} (hv : Int32.ofInt i = v) (hd : decode B pc = .ok (.iconst i, 1)) (hp : pc + 1 = pc') (k : Gt p.tables e below F (T.setTop (mkF m pc' L (.int v :: rest)))) : Gt p.tables e below F (T.setTop (mkF m pc L rest)) := by
  subst hp; exact (by subst hv; exact k.go fun t q => XS.iconst X.here hx rfl (hb hby hd) q)
theorem own_bipush (X : Stand p l e R s m args below meth c T locs cells slots) (hx : p.tables.exec = Jvm.exec) (hby : c.code = B) {i : Int} {v : Int32} (hv : (Int8.ofInt i).toInt32 = v) (hd : decode B pc = .ok (.bipush i, 2)) (hp : pc + 2 = pc') (k : Gt p.tables e below F (T.setTop (mkF m pc' L (.int v :: rest)))) : Gt p.tables e below F (T.setTop (mkF m pc L rest)) := by
  subst hp; exact (by subst hv; exact k.go fun t q => XS.bipush X.here hx rfl (hb hby hd) q)
theorem own_sipush (X : Stand p l e R s m args below meth c T locs cells slots) (hx : p.tables.exec = Jvm.exec) (hby : c.code = B) {i : Int} {v : Int32} (hv : (Int16.ofInt i).toInt32 = v) (hd : decode B pc = .ok (.sipush i, 3)) (hp : pc + 3 = pc') (k : Gt p.tables e below F (T.setTop (mkF m pc' L (.int v :: rest)))) : Gt p.tables e below F (T.setTop (mkF m pc L rest)) := by
  subst hp; exact (by subst hv; exact k.go fun t q => XS.sipush X.here hx rfl (hb hby hd) q)
theorem own_lconst (X : Stand p l e R s m args below meth c T locs cells slots) (hx : p.tables.exec = Jvm.exec) (hby : c.code = B) {i : Fin 2} {v : Int64} (hv : Int64.ofNat i = v) (hd : decode B pc = .ok (.lconst i, 1)) (hp : pc + 1 = pc') (k : Gt p.tables e below F (T.setTop (mkF m pc' L (.long v :: rest)))) : Gt p.tables e below F (T.setTop (mkF m pc L rest)) := by
  subst hp; exact (by subst hv; exact k.go fun t q => XS.lconst X.here hx rfl (hb hby hd) q)
theorem own_aconst (X : Stand p l e R s m args below meth c T locs cells slots) (hx : p.tables.exec = Jvm.exec) (hby : c.code = B)  (hd : decode B pc = .ok (.aconst_null, 1)) (hp : pc + 1 = pc') (k : Gt p.tables e below F (T.setTop (mkF m pc' L (.null :: rest)))) : Gt p.tables e below F (T.setTop (mkF m pc L rest)) := by
  subst hp; exact k.go fun t q => XS.aconstNull X.here hx rfl (hb hby hd) q
theorem own_dconst0 (X : Stand p l e R s m args below meth c T locs cells slots) (hx : p.tables.exec = Jvm.exec) (hby : c.code = B) {v : UInt64} (hv : FP.dconst0 = v) (hd : decode B pc = .ok (.dconst 0, 1)) (hp : pc + 1 = pc') (k : Gt p.tables e below F (T.setTop (mkF m pc' L (.double v :: rest)))) : Gt p.tables e below F (T.setTop (mkF m pc L rest)) := by
  subst hp; exact k.go fun t q => XS.dconst0 X.here hx rfl (hb hby hd) hv q
theorem own_dconst1 (X : Stand p l e R s m args below meth c T locs cells slots) (hx : p.tables.exec = Jvm.exec) (hby : c.code = B) {v : UInt64} (hv : FP.dconst1 = v) (hd : decode B pc = .ok (.dconst 1, 1)) (hp : pc + 1 = pc') (k : Gt p.tables e below F (T.setTop (mkF m pc' L (.double v :: rest)))) : Gt p.tables e below F (T.setTop (mkF m pc L rest)) := by
  subst hp; exact k.go fun t q => XS.dconst1 X.here hx rfl (hb hby hd) hv q
theorem own_dadd (X : Stand p l e R s m args below meth c T locs cells slots) (hx : p.tables.exec = Jvm.exec) (hby : c.code = B) {x y v : UInt64} (hn : NoNaN64 (FP.dadd x y)) (hv : FP.dadd x y = v) (hd : decode B pc = .ok (.dadd, 1)) (hp : pc + 1 = pc') (k : Gt p.tables e below F (T.setTop (mkF m pc' L (.double v :: rest)))) : Gt p.tables e below F (T.setTop (mkF m pc L (.double y :: .double x :: rest))) := by
  subst hp; exact k.go fun t q => XS.daddS X.here hx rfl (hb hby hd) rfl hn hv q
theorem own_dsub (X : Stand p l e R s m args below meth c T locs cells slots) (hx : p.tables.exec = Jvm.exec) (hby : c.code = B) {x y v : UInt64} (hn : NoNaN64 (FP.dsub x y)) (hv : FP.dsub x y = v) (hd : decode B pc = .ok (.dsub, 1)) (hp : pc + 1 = pc') (k : Gt p.tables e below F (T.setTop (mkF m pc' L (.double v :: rest)))) : Gt p.tables e below F (T.setTop (mkF m pc L (.double y :: .double x :: rest))) := by
  subst hp; exact k.go fun t q => XS.dsubS X.here hx rfl (hb hby hd) rfl hn hv q
theorem own_dmul (X : Stand p l e R s m args below meth c T locs cells slots) (hx : p.tables.exec = Jvm.exec) (hby : c.code = B) {x y v : UInt64} (hn : NoNaN64 (FP.dmul x y)) (hv : FP.dmul x y = v) (hd : decode B pc = .ok (.dmul, 1)) (hp : pc + 1 = pc') (k : Gt p.tables e below F (T.setTop (mkF m pc' L (.double v :: rest)))) : Gt p.tables e below F (T.setTop (mkF m pc L (.double y :: .double x :: rest))) := by
  subst hp; exact k.go fun t q => XS.dmulS X.here hx rfl (hb hby hd) rfl hn hv q
theorem own_ddiv (X : Stand p l e R s m args below meth c T locs cells slots) (hx : p.tables.exec = Jvm.exec) (hby : c.code = B) {x y v : UInt64} (hn : NoNaN64 (FP.ddiv x y)) (hv : FP.ddiv x y = v) (hd : decode B pc = .ok (.ddiv, 1)) (hp : pc + 1 = pc') (k : Gt p.tables e below F (T.setTop (mkF m pc' L (.double v :: rest)))) : Gt p.tables e below F (T.setTop (mkF m pc L (.double y :: .double x :: rest))) := by
  subst hp; exact k.go fun t q => XS.ddivS X.here hx rfl (hb hby hd) rfl hn hv q
theorem own_dneg (X : Stand p l e R s m args below meth c T locs cells slots) (hx : p.tables.exec = Jvm.exec) (hby : c.code = B) {x v : UInt64} (hv : FP.dneg x = v) (hd : decode B pc = .ok (.dneg, 1)) (hp : pc + 1 = pc') (k : Gt p.tables e below F (T.setTop (mkF m pc' L (.double v :: rest)))) : Gt p.tables e below F (T.setTop (mkF m pc L (.double x :: rest))) := by
  subst hp; exact k.go fun t q => XS.dnegS X.here hx rfl (hb hby hd) rfl hv q
theorem own_dcmp (X : Stand p l e R s m args below meth c T locs cells slots) (hx : p.tables.exec = Jvm.exec) (hby : c.code = B) {o : CmpOp} {x y : UInt64} {v : Int32} (hv : cmpValue (FP.dcmp x y) o = v) (hd : decode B pc = .ok (.dcmp o, 1)) (hp : pc + 1 = pc') (k : Gt p.tables e below F (T.setTop (mkF m pc' L (.int v :: rest)))) : Gt p.tables e below F (T.setTop (mkF m pc L (.double y :: .double x :: rest))) := by
  subst hp; exact k.go fun t q => XS.dcmpS X.here hx rfl (hb hby hd) rfl hv q
theorem own_i2d (X : Stand p l e R s m args below meth c T locs cells slots) (hx : p.tables.exec = Jvm.exec) (hby : c.code = B) {x : Int32} {v : UInt64} (hv : FP.i2d x = v) (hd : decode B pc = .ok (.i2d, 1)) (hp : pc + 1 = pc') (k : Gt p.tables e below F (T.setTop (mkF m pc' L (.double v :: rest)))) : Gt p.tables e below F (T.setTop (mkF m pc L (.int x :: rest))) := by
  subst hp; exact k.go fun t q => XS.i2dS X.here hx rfl (hb hby hd) rfl hv q
theorem own_l2d (X : Stand p l e R s m args below meth c T locs cells slots) (hx : p.tables.exec = Jvm.exec) (hby : c.code = B) {x : Int64} {v : UInt64} (hv : FP.l2d x = v) (hd : decode B pc = .ok (.l2d, 1)) (hp : pc + 1 = pc') (k : Gt p.tables e below F (T.setTop (mkF m pc' L (.double v :: rest)))) : Gt p.tables e below F (T.setTop (mkF m pc L (.long x :: rest))) := by
  subst hp; exact k.go fun t q => XS.l2dS X.here hx rfl (hb hby hd) rfl hv q
theorem own_dup (X : Stand p l e R s m args below meth c T locs cells slots) (hx : p.tables.exec = Jvm.exec) (hby : c.code = B) {x : Value} (hc : x.category = 1) (hd : decode B pc = .ok (.dup, 1)) (hp : pc + 1 = pc') (k : Gt p.tables e below F (T.setTop (mkF m pc' L (x :: x :: rest)))) : Gt p.tables e below F (T.setTop (mkF m pc L (x :: rest))) := by
  subst hp; exact k.go fun t q => XS.dup X.here hx rfl (hb hby hd) rfl hc q
theorem own_pop (X : Stand p l e R s m args below meth c T locs cells slots) (hx : p.tables.exec = Jvm.exec) (hby : c.code = B) {x : Value} (hc : x.category = 1) (hd : decode B pc = .ok (.pop, 1)) (hp : pc + 1 = pc') (k : Gt p.tables e below F (T.setTop (mkF m pc' L rest))) : Gt p.tables e below F (T.setTop (mkF m pc L (x :: rest))) := by
  subst hp; exact k.go fun t q => XS.pop X.here hx rfl (hb hby hd) rfl hc q
theorem own_dupX1 (X : Stand p l e R s m args below meth c T locs cells slots) (hx : p.tables.exec = Jvm.exec) (hby : c.code = B) {x y : Value} (hc : x.category = 1) (hc' : y.category = 1) (hd : decode B pc = .ok (.dup_x1, 1)) (hp : pc + 1 = pc') (k : Gt p.tables e below F (T.setTop (mkF m pc' L (x :: y :: x :: rest)))) : Gt p.tables e below F (T.setTop (mkF m pc L (x :: y :: rest))) := by
  subst hp; exact k.go fun t q => XS.dupX1 X.here hx rfl (hb hby hd) rfl hc hc' q
theorem own_dup2 (X : Stand p l e R s m args below meth c T locs cells slots) (hx : p.tables.exec = Jvm.exec) (hby : c.code = B) {x y : Value} (hc : x.category = 1) (hc' : y.category = 1) (hd : decode B pc = .ok (.dup2, 1)) (hp : pc + 1 = pc') (k : Gt p.tables e below F (T.setTop (mkF m pc' L (x :: y :: x :: y :: rest)))) : Gt p.tables e below F (T.setTop (mkF m pc L (x :: y :: rest))) := by
  subst hp; exact k.go fun t q => Jvm.Free.XT.dup2 X.here hx rfl (hb hby hd) rfl hc hc' q
theorem own_goto (X : Stand p l e R s m args below meth c T locs cells slots) (hx : p.tables.exec = Jvm.exec) (hby : c.code = B) {o : Int} (hd : decode B pc = .ok (.goto o, 3)) (ho : 0 ≤ (pc : Int) + o) (hp : ((pc : Int) + o).toNat = pc') (k : Gt p.tables e below F (T.setTop (mkF m pc' L rest))) : Gt p.tables e below F (T.setTop (mkF m pc L rest)) :=
  k.go fun t q => XS.goto X.here hx rfl rfl (hb hby hd) ho hp q
theorem own_ifT (X : Stand p l e R s m args below meth c T locs cells slots) (hx : p.tables.exec = Jvm.exec) (hby : c.code = B) {cd : ClassFile.Cond} {x : Int32} {o : Int} (hd : decode B pc = .ok (.ifCond cd o, 3)) (hc : ifCond.holds cd x = true) (ho : 0 ≤ (pc : Int) + o) (hp : ((pc : Int) + o).toNat = pc') (k : Gt p.tables e below F (T.setTop (mkF m pc' L rest))) : Gt p.tables e below F (T.setTop (mkF m pc L (.int x :: rest))) :=
  k.go fun t q => XS.ifYes X.here hx rfl rfl (hb hby hd) rfl hc ho hp q
theorem own_ifF (X : Stand p l e R s m args below meth c T locs cells slots) (hx : p.tables.exec = Jvm.exec) (hby : c.code = B) {cd : ClassFile.Cond} {x : Int32} {o : Int} (hd : decode B pc = .ok (.ifCond cd o, 3)) (hc : ifCond.holds cd x = false) (hp : pc + 3 = pc') (k : Gt p.tables e below F (T.setTop (mkF m pc' L rest))) : Gt p.tables e below F (T.setTop (mkF m pc L (.int x :: rest))) := by
  subst hp; exact k.go fun t q => XS.ifNo X.here hx rfl (hb hby hd) rfl hc q
theorem own_icT (X : Stand p l e R s m args below meth c T locs cells slots) (hx : p.tables.exec = Jvm.exec) (hby : c.code = B) {cd : ClassFile.Cond} {x y : Int32} {o : Int} (hd : decode B pc = .ok (.if_icmp cd o, 3)) (hc : if_icmp.holds cd x y = true) (ho : 0 ≤ (pc : Int) + o) (hp : ((pc : Int) + o).toNat = pc') (k : Gt p.tables e below F (T.setTop (mkF m pc' L rest))) : Gt p.tables e below F (T.setTop (mkF m pc L (.int y :: .int x :: rest))) :=
  k.go fun t q => XS.icmpYes X.here hx rfl rfl (hb hby hd) rfl hc ho hp q
theorem own_icF (X : Stand p l e R s m args below meth c T locs cells slots) (hx : p.tables.exec = Jvm.exec) (hby : c.code = B) {cd : ClassFile.Cond} {x y : Int32} {o : Int} (hd : decode B pc = .ok (.if_icmp cd o, 3)) (hc : if_icmp.holds cd x y = false) (hp : pc + 3 = pc') (k : Gt p.tables e below F (T.setTop (mkF m pc' L rest))) : Gt p.tables e below F (T.setTop (mkF m pc L (.int y :: .int x :: rest))) := by
  subst hp; exact k.go fun t q => XS.icmpNo X.here hx rfl (hb hby hd) rfl hc q
theorem own_ifnullT (X : Stand p l e R s m args below meth c T locs cells slots) (hx : p.tables.exec = Jvm.exec) (hby : c.code = B) {o : Int} (hd : decode B pc = .ok (.ifnull o, 3)) (ho : 0 ≤ (pc : Int) + o) (hp : ((pc : Int) + o).toNat = pc') (k : Gt p.tables e below F (T.setTop (mkF m pc' L rest))) : Gt p.tables e below F (T.setTop (mkF m pc L (.null :: rest))) :=
  k.go fun t q => XS.ifnullYes X.here hx rfl rfl (hb hby hd) rfl ho hp q
theorem own_ifnullF (X : Stand p l e R s m args below meth c T locs cells slots) (hx : p.tables.exec = Jvm.exec) (hby : c.code = B) {o : Int} {b : Addr} (hd : decode B pc = .ok (.ifnull o, 3)) (hp : pc + 3 = pc') (k : Gt p.tables e below F (T.setTop (mkF m pc' L rest))) : Gt p.tables e below F (T.setTop (mkF m pc L (.ref b :: rest))) := by
  subst hp; exact k.go fun t q => XS.ifnullNo X.here hx rfl (hb hby hd) rfl q
theorem own_ifnonnullT (X : Stand p l e R s m args below meth c T locs cells slots) (hx : p.tables.exec = Jvm.exec) (hby : c.code = B) {o : Int} {b : Addr} (hd : decode B pc = .ok (.ifnonnull o, 3)) (ho : 0 ≤ (pc : Int) + o) (hp : ((pc : Int) + o).toNat = pc') (k : Gt p.tables e below F (T.setTop (mkF m pc' L rest))) : Gt p.tables e below F (T.setTop (mkF m pc L (.ref b :: rest))) :=
  k.go fun t q => XS.ifnonnullYes X.here hx rfl rfl (hb hby hd) rfl ho hp q
theorem own_ifnonnullF (X : Stand p l e R s m args below meth c T locs cells slots) (hx : p.tables.exec = Jvm.exec) (hby : c.code = B) {o : Int} (hd : decode B pc = .ok (.ifnonnull o, 3)) (hp : pc + 3 = pc') (k : Gt p.tables e below F (T.setTop (mkF m pc' L rest))) : Gt p.tables e below F (T.setTop (mkF m pc L (.null :: rest))) := by
  subst hp; exact k.go fun t q => XS.ifnonnullNo X.here hx rfl (hb hby hd) rfl q
theorem own_acmp (X : Stand p l e R s m args below meth c T locs cells slots) (hx : p.tables.exec = Jvm.exec) (hby : c.code = B) {cd : ACond} {x y : Value} (h1 : x.isRef = true) (h2 : y.isRef = true) {o : Int} {same : Bool} (hd : decode B pc = .ok (.if_acmp cd o, 3)) (hq : decide (x = y) = same) (ho : 0 ≤ (pc : Int) + o) (hp : pc' = if acV cd same = true then ((pc : Int) + o).toNat else pc + 3) (k : Gt p.tables e below F (T.setTop (mkF m pc' L rest))) : Gt p.tables e below F (T.setTop (mkF m pc L (y :: x :: rest))) :=
  k.go fun t q => Jvm.RoadKit.acmp X hx rfl h1 h2 rfl (hb hby hd) rfl hq ho hp q
theorem own_ldcI (X : Stand p l e R s m args below meth c T locs cells slots) (hx : p.tables.exec = Jvm.exec) (hby : c.code = B) (hZ : Z.Warmed39 s.vm) {own : String} {i : Nat} {v : Int32} (hown : s.vm.findClass own = some m.cls) (w : (Jvm.Cond.constant own i v).before a0 Z = true) (hd : decode B pc = .ok (.ldc i, 2)) (hp : pc + 2 = pc') (k : Gt p.tables e below F (T.setTop (mkF m pc' L (.int v :: rest)))) : Gt p.tables e below F (T.setTop (mkF m pc L rest)) := by
  subst hp; exact k.go (X.ldcInt hx hown (mvT hZ w) (g := mkF m pc L rest) rfl (hb hby hd))
theorem own_ldc2L (X : Stand p l e R s m args below meth c T locs cells slots) (hx : p.tables.exec = Jvm.exec) (hby : c.code = B) (hZ : Z.Warmed39 s.vm) {own : String} {i : Nat} {v : Int64} (hown : s.vm.findClass own = some m.cls) (w : (Jvm.Cond.constantLong own i v).before a0 Z = true) (hd : decode B pc = .ok (.ldc2_w i, 3)) (hp : pc + 3 = pc') (k : Gt p.tables e below F (T.setTop (mkF m pc' L (.long v :: rest)))) : Gt p.tables e below F (T.setTop (mkF m pc L rest)) := by
  subst hp; exact k.go (X.ldc2Long hx hown (mvT hZ w) (g := mkF m pc L rest) rfl (hb hby hd))
theorem own_ldc2D (X : Stand p l e R s m args below meth c T locs cells slots) (hx : p.tables.exec = Jvm.exec) (hby : c.code = B) (hZ : Z.Warmed39 s.vm) {own : String} {i : Nat} {v : UInt64} (hown : s.vm.findClass own = some m.cls) (w : (Jvm.Cond.constantDouble own i v).before a0 Z = true) (hd : decode B pc = .ok (.ldc2_w i, 3)) (hp : pc + 3 = pc') (k : Gt p.tables e below F (T.setTop (mkF m pc' L (.double v :: rest)))) : Gt p.tables e below F (T.setTop (mkF m pc L rest)) := by
  subst hp; exact k.go (X.ldc2DoubleC hx hown (mvT hZ w) (g := mkF m pc L rest) rfl (hb hby hd))
theorem own_getF (X : Stand p l e R s m args below meth c T locs cells slots) (hx : p.tables.exec = Jvm.exec) (hby : c.code = B) (hZ : Z.Warmed39 s.vm) {own R0 O n d host : String} {index : Nat} (hown : s.vm.findClass own = some m.cls) (w : (Jvm.Cond.fieldLink own index R0 n d).before a0 Z = true ∨ (Jvm.Cond.fieldLinkNest own index R0 n d host).before a0 Z = true) (via : Via Z R0 O n d) (eT : T.heap = h) {a : Addr} {v : Value} (Ff : Fld Z h a O n d v) (hd : decode B pc = .ok (.getfield index, 3)) (hp : pc + 3 = pc') (k : ∀ T', Stand p l e R s m args below meth c T' locs cells slots → T'.heap = h → Gt p.tables e below F (T'.setTop (mkF m pc' L (v :: rest)))) : Gt p.tables e below F (T.setTop (mkF m pc L (.ref a :: rest))) := by
  subst hp; obtain ⟨T', X', e', st⟩ := getF X hx hZ hown w via eT Ff (g := mkF m pc L (.ref a :: rest)) rfl rfl (hb hby hd); exact (k T' X' e').go st
theorem own_getS (X : Stand p l e R s m args below meth c T locs cells slots) (hx : p.tables.exec = Jvm.exec) (hby : c.code = B) (hZ : Z.Warmed39 s.vm) {own R0 O n d host : String} {index : Nat} (hown : s.vm.findClass own = some m.cls) (w : (Jvm.Cond.fieldLink own index R0 n d).before a0 Z = true ∨ (Jvm.Cond.fieldLinkNest own index R0 n d host).before a0 Z = true) (via : Via Z R0 O n d) (eT : T.heap = h) {v : Value} (Ff : Sta Z h O n d v) (hd : decode B pc = .ok (.getstatic index, 3)) (hp : pc + 3 = pc') (k : ∀ T', Stand p l e R s m args below meth c T' locs cells slots → T'.heap = h → Gt p.tables e below F (T'.setTop (mkF m pc' L (v :: rest)))) : Gt p.tables e below F (T.setTop (mkF m pc L rest)) := by
  subst hp; obtain ⟨T', X', e', st⟩ := getS2 X hx hZ hown w via eT Ff (g := mkF m pc L rest) rfl (hb hby hd); exact (k T' X' e').go st
theorem own_putF (X : Stand p l e R s m args below meth c T locs cells slots) (hx : p.tables.exec = Jvm.exec) (hby : c.code = B) (hZ : Z.Warmed39 s.vm) {own R0 O n d host C : String} {index kk : Nat} {ty : FieldType} (hown : s.vm.findClass own = some m.cls) (w : (Jvm.Cond.fieldLink own index R0 n d).before a0 Z = true ∨ (Jvm.Cond.fieldLinkNest own index R0 n d host).before a0 Z = true) (via : Via Z R0 O n d) (eT : T.heap = h) {a : Addr} {v old : Value} (Ff : Fld Z h a O n d old) (E : Exa Z h a C) (La : (Jvm.Cond.lays C O n d).before a0 Z = true ∨ ((Jvm.Cond.laysFinal C O n d).before a0 Z = true ∧ own = O ∧ meth.name = "<init>")) (wi : (Jvm.Cond.instantiable C kk).before a0 Z = true) (hty : parseFieldDescriptor d = some ty) (hn : narrow ty v = v) (hf : fits ty v = true) (hd : decode B pc = .ok (.putfield index, 3)) (hp : pc + 3 = pc') (k : ∀ T' h', Stand p l e R s m args below meth c T' (locs ++ [⟨a, Jvm.RoadKit.slotOf Z O n d⟩]) cells slots → T'.heap = h' → Wr h h' a (Jvm.RoadKit.slotOf Z O n d) v → Gt p.tables e below F (T'.setTop (mkF m pc' L rest))) : Gt p.tables e below F (T.setTop (mkF m pc L (v :: .ref a :: rest))) := by
  subst hp; obtain ⟨T', h', X', e', W, st⟩ := putF X hx hZ hown w via eT Ff E La wi hty hn hf (g := mkF m pc L (v :: .ref a :: rest)) rfl rfl (hb hby hd); exact (k T' h' X' e' W).go st
theorem own_newO (X : Stand p l e R s m args below meth c T locs cells slots) (hx : p.tables.exec = Jvm.exec) (hby : c.code = B) (hZ : Z.Warmed39 s.vm) {own C : String} {index n : Nat} (hown : s.vm.findClass own = some m.cls) (w : (Jvm.Cond.classLink own index C).before a0 Z = true) (wi : (Jvm.Cond.instantiable C n).before a0 Z = true) (wz : (Jvm.Cond.initialized C).before a0 Z = true) (eT : T.heap = h) (hd : decode B pc = .ok (.new index, 3)) (hp : pc + 3 = pc') (hc : cells + 1 ≤ R.cells) (hl : slots + n ≤ R.slots) (k : ∀ T' h' a, Stand p l e R s m args below meth c T' locs (cells + 1) (slots + n) → T'.heap = h' → Ext h h' → h.size = a → Exa Z h' a C → (∀ {O nm d : String} {ty : FieldType}, Laid Z a0 C O nm d → parseFieldDescriptor d = some ty → Fld Z h' a O nm d (defaultValue ty)) → Gt p.tables e below F (T'.setTop (mkF m pc' L (.ref a :: rest)))) : Gt p.tables e below F (T.setTop (mkF m pc L rest)) := by
  subst hp; obtain ⟨T', h', X', e', E', A', D', -, st⟩ := newO X hx hZ hown w wi wz eT (g := mkF m pc L rest) rfl (hb hby hd) hc hl; exact (k T' h' _ X' e' E' rfl A' D').go st
theorem own_initO (X : Stand p l e R s m args below meth c T locs cells slots) (hx : p.tables.exec = Jvm.exec) (hby : c.code = B) (hZ : Z.Warmed39 s.vm) {own : String} {idx : Nat} (hown : s.vm.findClass own = some m.cls) (w1 : (Jvm.Cond.methodLink own idx Lib.objectInit).before a0 Z = true) (w2 : (Jvm.Cond.instanceMethod Lib.objectInit).before a0 Z = true) (w3 : (Jvm.Cond.code Lib.objectInit ⟨#[0xb1]⟩ 1 none).before a0 Z = true) (eT : T.heap = h) (hsize : L.size = c.maxLocals) {a : Addr} (hd : decode B pc = .ok (.invokespecial idx, 3)) (hp : pc + 3 = pc') (hf : 1 ≤ R.frames) {W : Nat} (hW : (rest.map fun v => v.category).sum ≤ W) (hl : W + 12 ≤ R.locals) (k : ∀ T', Stand p l e R s m args below meth c T' locs cells slots → T'.heap = h → Gt p.tables e below F (T'.setTop (mkF m pc' L rest))) : Gt p.tables e below F (T.setTop (mkF m pc L (.ref a :: rest))) := by
  subst hp; obtain ⟨T', X', e', st⟩ := initO X hx hZ hown w1 w2 w3 eT (g := mkF m pc L (.ref a :: rest)) rfl hsize rfl (hb hby hd) hf (W := W) (by show 2 * 0 + _ ≤ _; rw [Nat.mul_zero, Nat.zero_add]; exact hW) hl; exact (k T' X' e').go st
theorem own_special (X : Stand p l e R s m args below meth c T locs cells slots) (hx : p.tables.exec = Jvm.exec) (hby : c.code = B) (hZ : Z.Warmed39 s.vm) {own : String} {index : Nat} {y : MethodName} {bytes : ByteArray} {maxL : Nat} {ret : Option FieldType} {rm : Room} {as' : Array Value} {Q : Option Value → Heap → List Loc → Prop} (hy1 : y.name = "<init>") (hown : s.vm.findClass own = some m.cls) (w1 : (Jvm.Cond.methodLink own index y).before a0 Z = true) (w2 : (Jvm.Cond.instanceMethod y).before a0 Z = true) (hret : ret = none) (w3 : (Jvm.Cond.code y bytes maxL ret).before a0 Z = true) (w4 : (Jvm.Cond.initialized y.cls).before a0 Z = true) (hy : y.cls ≠ "java/lang/invoke/MethodHandle" ∧ y.cls ≠ "java/lang/invoke/VarHandle") (hM : MetFree l y (head1 [Jvm.Cond.code y bytes maxL ret] rm) (fun a U => a = as' ∧ Z.Warmed39 U.vm ∧ U.heap = h) (fun _ _ _ _ _ => True) (fun _ U o U' => ∃ v L, o = .returned v ∧ Q v U'.heap L ∧ FrameEnd U o U' L rm.cells rm.slots)) (eT : T.heap = h) (hsize : L.size = c.maxLocals) {a : Addr} {argsL : List Value} (has : as' = (.ref a :: argsL).toArray) (hlen : ∀ sig, parseMethodDescriptor y.desc = some sig → argsL.length = sig.parameters.length) {st : List Value} (hst : st = argsL.reverse ++ .ref a :: rest) (hd : decode B pc = .ok (.invokespecial index, 3)) (hp : pc + 3 = pc') (hf : rm.frames + 1 ≤ R.frames) {W : Nat} (hW : (rest.map fun v => v.category).sum ≤ W) (hl : W + (maxL + 11) + rm.locals ≤ R.locals) (hc : cells + rm.cells ≤ R.cells) (hs : slots + rm.slots ≤ R.slots) (k : ∀ T' h' L' v, Stand p l e R s m args below meth c T' (locs ++ L') (cells + rm.cells) (slots + rm.slots) → T'.heap = h' → Q v h' L' → Gt p.tables e below F (T'.setTop (mkF m pc' L (v.toList ++ rest)))) : Gt p.tables e below F (T.setTop (mkF m pc L st)) := by
  subst hp hret has hst
  obtain ⟨v, vm1, ⟨T', L1, k1, n1⟩, -, X', ⟨Lc, hQ, l1, l2, l3⟩, st⟩ := X.specialBack hx (y := y) hy1 hown (mvT hZ w1) (mvT hZ w2) (mvT hZ w3) hy (backOf (W := W) hM hZ w3 w4 hf hl) (g := mkF m pc L (argsL.reverse ++ .ref a :: rest)) rfl hsize (Steps.refl _) (a := a) (argsL := argsL) (rest := rest) hlen rfl (by show 2 * 0 + _ ≤ _; rw [Nat.mul_zero, Nat.zero_add]; exact hW) (hb hby hd) (fun _ _ => ⟨rfl, eT, hc, hs⟩)
  dsimp only [Pt.U, Pt.locs, Pt.cells, Pt.slots] at X' l1 l2 l3 st hQ
  subst l1 l2 l3
  exact (k T' _ Lc v X' rfl hQ).go fun t q => st.trans q
theorem own_virtual (X : Stand p l e R s m args below meth c T locs cells slots) (hx : p.tables.exec = Jvm.exec) (hby : c.code = B) (hZ : Z.Warmed39 s.vm) {own : String} {index : Nat} {y : MethodName} {bytes : ByteArray} {maxL : Nat} {ret : Option FieldType} {rm : Room} {as' : Array Value} {Q : Option Value → Heap → List Loc → Prop} {C : String} {y' : MethodName} (hown : s.vm.findClass own = some m.cls) (w1 : (Jvm.Cond.methodLink own index y').before a0 Z = true) (w2 : (Jvm.Cond.declares y').before a0 Z = true) (hnf : NotFace s y') (w5 : (Jvm.Cond.selects C y' y).before a0 Z = true) (w6 : (Jvm.Cond.instanceMethod y).before a0 Z = true) (w3 : (Jvm.Cond.code y bytes maxL ret).before a0 Z = true) (w4 : (Jvm.Cond.initialized y.cls).before a0 Z = true) (hy : y'.cls ≠ "java/lang/invoke/MethodHandle" ∧ y'.cls ≠ "java/lang/invoke/VarHandle") (hM : MetFree l y (head1 [Jvm.Cond.code y bytes maxL ret] rm) (fun a U => a = as' ∧ Z.Warmed39 U.vm ∧ U.heap = h) (fun _ _ _ _ _ => True) (fun _ U o U' => ∃ v L, o = .returned v ∧ Q v U'.heap L ∧ FrameEnd U o U' L rm.cells rm.slots)) (eT : T.heap = h) (hsize : L.size = c.maxLocals) {a : Addr} (E : Exa Z h a C) {argsL : List Value} (has : as' = (.ref a :: argsL).toArray) (hlen : ∀ sig, parseMethodDescriptor y'.desc = some sig → argsL.length = sig.parameters.length) {st : List Value} (hst : st = argsL.reverse ++ .ref a :: rest) (hd : decode B pc = .ok (.invokevirtual index, 3)) (hp : pc + 3 = pc') (hf : rm.frames + 1 ≤ R.frames) {W : Nat} (hW : (rest.map fun v => v.category).sum ≤ W) (hl : W + (maxL + 11) + rm.locals ≤ R.locals) (hc : cells + rm.cells ≤ R.cells) (hs : slots + rm.slots ≤ R.slots) (k : ∀ T' h' L' v, Stand p l e R s m args below meth c T' (locs ++ L') (cells + rm.cells) (slots + rm.slots) → T'.heap = h' → Q v h' L' → Gt p.tables e below F (T'.setTop (mkF m pc' L (v.toList ++ rest)))) : Gt p.tables e below F (T.setTop (mkF m pc L st)) := by
  subst hp has hst
  obtain ⟨cq, kq, qa, qb, qc⟩ := isOf hZ eT E
  obtain ⟨v, vm1, ⟨T', L1, k1, n1⟩, -, X', ⟨Lc, hQ, l1, l2, l3⟩, st⟩ := X.virtualBack hx (y := y') (z := y) hown (mvT hZ w1) (mvT hZ w2) hnf (mvT hZ w5) (mvT hZ w6) hy (backOf (W := W) hM hZ w3 w4 hf hl) qa qc (g := mkF m pc L (argsL.reverse ++ .ref a :: rest)) rfl hsize (Steps.refl _) (argsL := argsL) (rest := rest) hlen rfl (by show 2 * 0 + _ ≤ _; rw [Nat.mul_zero, Nat.zero_add]; exact hW) (hb hby hd) (fun _ _ => ⟨rfl, eT, hc, hs⟩)
  dsimp only [Pt.U, Pt.locs, Pt.cells, Pt.slots] at X' l1 l2 l3 st hQ
  subst l1 l2 l3
  exact (k T' _ Lc v X' rfl hQ).go fun t q => st.trans q
theorem own_static (X : Stand p l e R s m args below meth c T locs cells slots) (hx : p.tables.exec = Jvm.exec) (hby : c.code = B) (hZ : Z.Warmed39 s.vm) {own : String} {index : Nat} {y : MethodName} {bytes : ByteArray} {maxL : Nat} {ret : Option FieldType} {rm : Room} {as' : Array Value} {Q : Option Value → Heap → List Loc → Prop} (hown : s.vm.findClass own = some m.cls) (w1 : (Jvm.Cond.methodLink own index y).before a0 Z = true) (w2 : (Jvm.Cond.static y).before a0 Z = true) (w3 : (Jvm.Cond.code y bytes maxL ret).before a0 Z = true) (w4 : (Jvm.Cond.initialized y.cls).before a0 Z = true) (hy : y.cls ≠ "java/lang/invoke/MethodHandle" ∧ y.cls ≠ "java/lang/invoke/VarHandle") (hM : MetFree l y (head1 [Jvm.Cond.code y bytes maxL ret] rm) (fun a U => a = as' ∧ Z.Warmed39 U.vm ∧ U.heap = h) (fun _ _ _ _ _ => True) (fun _ U o U' => ∃ v L, o = .returned v ∧ Q v U'.heap L ∧ FrameEnd U o U' L rm.cells rm.slots)) (eT : T.heap = h) (hsize : L.size = c.maxLocals) {argsL : List Value} (has : as' = argsL.toArray) (hlen : ∀ sig, parseMethodDescriptor y.desc = some sig → argsL.length = sig.parameters.length) {st : List Value} (hst : st = argsL.reverse ++ rest) (hd : decode B pc = .ok (.invokestatic index, 3)) (hp : pc + 3 = pc') (hf : rm.frames + 1 ≤ R.frames) {W : Nat} (hW : (rest.map fun v => v.category).sum ≤ W) (hl : W + (maxL + 11) + rm.locals ≤ R.locals) (hc : cells + rm.cells ≤ R.cells) (hs : slots + rm.slots ≤ R.slots) (k : ∀ T' h' L' v, Stand p l e R s m args below meth c T' (locs ++ L') (cells + rm.cells) (slots + rm.slots) → T'.heap = h' → Q v h' L' → Gt p.tables e below F (T'.setTop (mkF m pc' L (v.toList ++ rest)))) : Gt p.tables e below F (T.setTop (mkF m pc L st)) := by
  subst hp has hst
  obtain ⟨v, vm1, ⟨T', L1, k1, n1⟩, -, X', ⟨Lc, hQ, l1, l2, l3⟩, st⟩ := Jvm.LawKit.callS X hx (y := y) hown (mvT hZ w1) (mvT hZ w2) (mvT hZ w4) (mvT hZ w3) hy (backOf (W := W) hM hZ w3 w4 hf hl) (g := mkF m pc L (argsL.reverse ++ rest)) rfl hsize (argsL := argsL) (rest := rest) hlen rfl (by show 2 * 0 + _ ≤ _; rw [Nat.mul_zero, Nat.zero_add]; exact hW) (hb hby hd) (fun _ _ => ⟨rfl, eT, hc, hs⟩)
  dsimp only [Pt.U, Pt.locs, Pt.cells, Pt.slots] at X' l1 l2 l3 st hQ
  subst l1 l2 l3
  exact (k T' _ Lc v X' rfl hQ).go fun t q => st _ q
theorem own_private (X : Stand p l e R s m args below meth c T locs cells slots) (hx : p.tables.exec = Jvm.exec) (hby : c.code = B) (hZ : Z.Warmed39 s.vm) {own : String} {index : Nat} {y : MethodName} {bytes : ByteArray} {maxL : Nat} {ret : Option FieldType} {rm : Room} {as' : Array Value} {Q : Option Value → Heap → List Loc → Prop} (hown : s.vm.findClass own = some m.cls) (w1 : (Jvm.Cond.methodLink own index y).before a0 Z = true) (w2 : (Jvm.Cond.instanceMethod y).before a0 Z = true) {ni : Nat} (w5 : (Jvm.Cond.instantiable y.cls ni).before a0 Z = true) (w6 : (Jvm.Cond.privateMethod y).before a0 Z = true) (w3 : (Jvm.Cond.code y bytes maxL ret).before a0 Z = true) (w4 : (Jvm.Cond.initialized y.cls).before a0 Z = true) (hy : y.cls ≠ "java/lang/invoke/MethodHandle" ∧ y.cls ≠ "java/lang/invoke/VarHandle") (hM : MetFree l y (head1 [Jvm.Cond.code y bytes maxL ret] rm) (fun a U => a = as' ∧ Z.Warmed39 U.vm ∧ U.heap = h) (fun _ _ _ _ _ => True) (fun _ U o U' => ∃ v L, o = .returned v ∧ Q v U'.heap L ∧ FrameEnd U o U' L rm.cells rm.slots)) (eT : T.heap = h) (hsize : L.size = c.maxLocals) {a : Addr} (E : Exa Z h a y.cls) {argsL : List Value} (has : as' = (.ref a :: argsL).toArray) (hlen : ∀ sig, parseMethodDescriptor y.desc = some sig → argsL.length = sig.parameters.length) {st : List Value} (hst : st = argsL.reverse ++ .ref a :: rest) (hd : decode B pc = .ok (.invokevirtual index, 3)) (hp : pc + 3 = pc') (hf : rm.frames + 1 ≤ R.frames) {W : Nat} (hW : (rest.map fun v => v.category).sum ≤ W) (hl : W + (maxL + 11) + rm.locals ≤ R.locals) (hc : cells + rm.cells ≤ R.cells) (hs : slots + rm.slots ≤ R.slots) (k : ∀ T' h' L' v, Stand p l e R s m args below meth c T' (locs ++ L') (cells + rm.cells) (slots + rm.slots) → T'.heap = h' → Q v h' L' → Gt p.tables e below F (T'.setTop (mkF m pc' L (v.toList ++ rest)))) : Gt p.tables e below F (T.setTop (mkF m pc L st)) := by
  subst hp has hst
  obtain ⟨cq, q1, q2⟩ := E.cell
  obtain ⟨cI, kI, i1, i2, -, i3, -⟩ := Cond.instantiable_spec (mv (s := s) (args := args) hZ w5)
  have hpr := Cond.privateMethod_at (mvP (s := s) hZ w6 (args := #[]))
  have hsel := Jvm.Stand.selects_self_of_private i1 i2 (Bool.or_eq_false_iff.mp i3).1 hpr (mvT (s := s) (args := args) hZ w2) hy
  obtain ⟨v, vm1, ⟨T', L1, k1, n1⟩, -, X', ⟨Lc, hQ, l1, l2, l3⟩, st⟩ := X.privateBack hx (y := y) hown (mvT hZ w1) (mvT hZ w2) hsel hpr (mvT hZ w3) hy (backOf (W := W) hM hZ w3 w4 hf hl) (g := mkF m pc L (argsL.reverse ++ .ref a :: rest)) rfl hsize (Steps.refl _) (a := a) (by rw [eT]; exact q1) q2 (argsL := argsL) (rest := rest) hlen rfl (by show 2 * 0 + _ ≤ _; rw [Nat.mul_zero, Nat.zero_add]; exact hW) (hb hby hd) (fun _ _ => ⟨rfl, eT, hc, hs⟩)
  dsimp only [Pt.U, Pt.locs, Pt.cells, Pt.slots] at X' l1 l2 l3 st hQ
  subst l1 l2 l3
  exact (k T' _ Lc v X' rfl hQ).go fun t q => st.trans q
theorem own_retV (X : Stand p l e R s m args below meth c T locs cells slots) (hx : p.tables.exec = Jvm.exec) (hby : c.code = B) (hlocks : meth.locks = false) {Q : Option Value → Heap → List Loc → Prop} {kc ks : Nat} (hret : meth.sig.returnType = none) (hd : decode B pc = .ok (.return_, 1)) (hc : cells ≤ kc) (hs : slots ≤ ks) (eT : T.heap = h) (hq : Q none h locs) : Gt p.tables e below (fun o U' => ∃ v Lc, o = .returned v ∧ Q v U'.heap Lc ∧ FrameEnd s o U' Lc kc ks) (T.setTop (mkF m pc L [])) := by
  subst eT
  obtain ⟨fs, hr, hrun, hended, hW, hsame⟩ := X.leave (v := none) (fun _ => rfl) hlocks
  exact ⟨_, _, X.returnOut hx hret (hb hby hd) hr, hrun, hended, _, _, rfl, hq, ⟨_, rfl⟩, hW, hsame.mono hc hs⟩
theorem own_retI (X : Stand p l e R s m args below meth c T locs cells slots) (hx : p.tables.exec = Jvm.exec) (hby : c.code = B) (hlocks : meth.locks = false) {Q : Option Value → Heap → List Loc → Prop} {kc ks : Nat} (hret : meth.sig.returnType = some .int) {z : Int32} (hd : decode B pc = .ok (.ireturn, 1)) (hc : cells ≤ kc) (hs : slots ≤ ks) (eT : T.heap = h) (hq : Q (some (.int z)) h locs) : Gt p.tables e below (fun o U' => ∃ v Lc, o = .returned v ∧ Q v U'.heap Lc ∧ FrameEnd s o U' Lc kc ks) (T.setTop (mkF m pc L (.int z :: rest))) := by
  subst eT
  obtain ⟨fs, hr, hrun, hended, hW, hsame⟩ := X.leave (v := (some (.int z))) (fun h => by rw [hret] at h; cases h) hlocks
  exact ⟨_, _, retOut X hx hret rfl (Or.inl ⟨rfl, Or.inl rfl, z, rfl⟩) (hb hby hd) hr, hrun, hended, _, _, rfl, hq, ⟨_, rfl⟩, hW, hsame.mono hc hs⟩
theorem own_retL (X : Stand p l e R s m args below meth c T locs cells slots) (hx : p.tables.exec = Jvm.exec) (hby : c.code = B) (hlocks : meth.locks = false) {Q : Option Value → Heap → List Loc → Prop} {kc ks : Nat} (hret : meth.sig.returnType = some .long) {z : Int64} (hd : decode B pc = .ok (.lreturn, 1)) (hc : cells ≤ kc) (hs : slots ≤ ks) (eT : T.heap = h) (hq : Q (some (.long z)) h locs) : Gt p.tables e below (fun o U' => ∃ v Lc, o = .returned v ∧ Q v U'.heap Lc ∧ FrameEnd s o U' Lc kc ks) (T.setTop (mkF m pc L (.long z :: rest))) := by
  subst eT
  obtain ⟨fs, hr, hrun, hended, hW, hsame⟩ := X.leave (v := (some (.long z))) (fun h => by rw [hret] at h; cases h) hlocks
  exact ⟨_, _, retOut X hx hret rfl (Or.inr (Or.inl ⟨rfl, rfl, z, rfl⟩)) (hb hby hd) hr, hrun, hended, _, _, rfl, hq, ⟨_, rfl⟩, hW, hsame.mono hc hs⟩
theorem own_retD (X : Stand p l e R s m args below meth c T locs cells slots) (hx : p.tables.exec = Jvm.exec) (hby : c.code = B) (hlocks : meth.locks = false) {Q : Option Value → Heap → List Loc → Prop} {kc ks : Nat} (hret : meth.sig.returnType = some .double) {z : UInt64} (hd : decode B pc = .ok (.dreturn, 1)) (hc : cells ≤ kc) (hs : slots ≤ ks) (eT : T.heap = h) (hq : Q (some (.double z)) h locs) : Gt p.tables e below (fun o U' => ∃ v Lc, o = .returned v ∧ Q v U'.heap Lc ∧ FrameEnd s o U' Lc kc ks) (T.setTop (mkF m pc L (.double z :: rest))) := by
  subst eT
  obtain ⟨fs, hr, hrun, hended, hW, hsame⟩ := X.leave (v := (some (.double z))) (fun h => by rw [hret] at h; cases h) hlocks
  exact ⟨_, _, retOut X hx hret rfl (Or.inr (Or.inr (Or.inl ⟨rfl, rfl, z, rfl⟩))) (hb hby hd) hr, hrun, hended, _, _, rfl, hq, ⟨_, rfl⟩, hW, hsame.mono hc hs⟩
theorem own_retZ (X : Stand p l e R s m args below meth c T locs cells slots) (hx : p.tables.exec = Jvm.exec) (hby : c.code = B) (hlocks : meth.locks = false) {Q : Option Value → Heap → List Loc → Prop} {kc ks : Nat} (hret : meth.sig.returnType = some .boolean) {z : Int32} (hz : z = 0 ∨ z = 1) (hd : decode B pc = .ok (.ireturn, 1)) (hc : cells ≤ kc) (hs : slots ≤ ks) (eT : T.heap = h) (hq : Q (some (.int z)) h locs) : Gt p.tables e below (fun o U' => ∃ v Lc, o = .returned v ∧ Q v U'.heap Lc ∧ FrameEnd s o U' Lc kc ks) (T.setTop (mkF m pc L (.int z :: rest))) := by
  subst eT
  obtain ⟨fs, hr, hrun, hended, hW, hsame⟩ := X.leave (v := (some (.int z))) (fun h => by rw [hret] at h; cases h) hlocks
  exact ⟨_, _, retOut X hx hret (by rcases hz with rfl | rfl <;> rfl) (Or.inl ⟨rfl, Or.inr (Or.inl rfl), z, rfl⟩) (hb hby hd) hr, hrun, hended, _, _, rfl, hq, ⟨_, rfl⟩, hW, hsame.mono hc hs⟩
theorem own_retA (X : Stand p l e R s m args below meth c T locs cells slots) (hx : p.tables.exec = Jvm.exec) (hby : c.code = B) (hlocks : meth.locks = false) {Q : Option Value → Heap → List Loc → Prop} {kc ks : Nat} {t : FieldType} (hret : meth.sig.returnType = some t) (ht : t.isReference = true) {z : Value} (hz : z.isRef = true) (hd : decode B pc = .ok (.areturn, 1)) (hc : cells ≤ kc) (hs : slots ≤ ks) (eT : T.heap = h) (hq : Q (some z) h locs) : Gt p.tables e below (fun o U' => ∃ v Lc, o = .returned v ∧ Q v U'.heap Lc ∧ FrameEnd s o U' Lc kc ks) (T.setTop (mkF m pc L (z :: rest))) := by
  subst eT
  obtain ⟨fs, hr, hrun, hended, hW, hsame⟩ := X.leave (v := (some z)) (fun h => by rw [hret] at h; cases h) hlocks
  exact ⟨_, _, retOut X hx hret (by rcases ref_cases hz with rfl | ⟨a, rfl⟩ <;> cases t <;> simp_all [narrow, FieldType.isReference]) (Or.inr (Or.inr (Or.inr (Or.inr ⟨rfl, ht, hz⟩)))) (hb hby hd) hr, hrun, hended, _, _, rfl, hq, ⟨_, rfl⟩, hW, hsame.mono hc hs⟩
end OwnG
section OwnA
variable {p : Program} {l : Launch} {e : Env} {R : Room} {s : State} {m : MethodId} {args : Array Value} {below : List Frame} {meth : Method} {c : Code} {T : State} {locs : List Loc} {cells slots : Nat} {Z : State} {a0 : Array Value} {h h' : Heap} {B : ByteArray} {pc pc' : Nat} {L L' : Array Slot} {rest : List Value} {F : Outcome → State → Prop} {a b : Addr} {ty : FieldType} {vs : List Value} {P : ClassId → Prop} {sl : Nat} {v : Value} {ws : List Addr}
def tr (_ : ClassId) : Prop := True
/-- an array at a of kind ty whose components are the list vs, of a class with P -/
def Ary (P : ClassId → Prop) (Z : State) (h : Heap) (a : Addr) (ty : FieldType) (vs : List Value) : Prop := ∃ c : Cell, Arr Z h a c ty ∧ P c.cls ∧ c.slots.toList = vs ∧ vs.length < 2 ^ 31
theorem Ary.lt (V : Ary P Z h a ty vs) : a < h.size := by obtain ⟨c, A, -⟩ := V; exact A.lt
theorem Ary.ext (V : Ary P Z h a ty vs) (E : Ext h h') : Ary P Z h' a ty vs := by obtain ⟨c, A, r⟩ := V; exact ⟨c, A.ext E, r⟩
theorem Ary.other (V : Ary P Z h b ty vs) (W : Wr h h' a sl v) (q : b ≠ a) : Ary P Z h' b ty vs := by obtain ⟨c, A, r⟩ := V; exact ⟨c, A.other W q, r⟩
theorem Ary.keep (V : Ary P Z h a ty vs) (K : Keep h h' ws) (q : a ∉ ws) : Ary P Z h' a ty vs := by obtain ⟨c, A, r⟩ := V; exact ⟨c, ⟨K.2.1 a c A.1 q, A.2⟩, r⟩
theorem Ary.set (V : Ary P Z h a ty vs) (W : Wr h h' a sl v) : Ary P Z h' a ty (vs.set sl v) := by
  obtain ⟨c, A, q, r, t⟩ := V
  refine ⟨_, A.same W, q, ?_, by rw [List.length_set]; exact t⟩
  show (c.slots.setIfInBounds sl v).toList = _
  rw [Array.toList_setIfInBounds, r]
theorem Ary.size {cl : Cell} (r : cl.slots.toList = vs) : cl.slots.size = vs.length := by rw [← r]; simp
theorem Ary.inb {cl : Cell} {i : Int32} (r : cl.slots.toList = vs) (hi : ¬ i < 0) (hl : i.toNatClampNeg < vs.length) : ¬ (i < 0 ∨ cl.slots.size ≤ i.toNatClampNeg) := by
  rw [Ary.size r]; intro q; rcases q with q | q
  · exact hi q
  · omega
theorem Ary.at {cl : Cell} {i : Nat} (r : cl.slots.toList = vs) (hg : vs[i]? = some v) : cl.slots[i]? = some v := by
  rw [← hg, ← r]; simp
theorem own_alen (X : Stand p l e R s m args below meth c T locs cells slots) (hx : p.tables.exec = Jvm.exec) (hby : c.code = B) (hZ : Z.Warmed39 s.vm) (eT : T.heap = h) (V : Ary P Z h a ty vs) {z : Int32} (hz : vs.length.toInt32 = z) (hd : decode B pc = .ok (.arraylength, 1)) (hp : pc + 1 = pc') (k : Gt p.tables e below F (T.setTop (mkF m pc' L (.int z :: rest)))) : Gt p.tables e below F (T.setTop (mkF m pc L (.ref a :: rest))) := by
  subst hp hz
  obtain ⟨cl, A, -, r, t⟩ := V
  refine k.go fun t q => X.arraylength hx (by rw [eT]; exact A.1) (State.isArrayOf_alike hZ.alike A.2.1) (g := mkF m pc L (.ref a :: rest)) rfl rfl (hb hby hd) _ ?_
  rw [Ary.size r]; exact q
theorem own_iaload (X : Stand p l e R s m args below meth c T locs cells slots) (hx : p.tables.exec = Jvm.exec) (hby : c.code = B) (hZ : Z.Warmed39 s.vm) (eT : T.heap = h) (V : Ary P Z h a .int vs) {i : Int32} (hi : ¬ i < 0) (hg : vs[i.toNatClampNeg]? = some v) (hd : decode B pc = .ok (.iaload, 1)) (hp : pc + 1 = pc') (k : Gt p.tables e below F (T.setTop (mkF m pc' L (v :: rest)))) : Gt p.tables e below F (T.setTop (mkF m pc L (.int i :: .ref a :: rest))) := by
  subst hp
  obtain ⟨cl, A, -, r, t⟩ := V
  exact k.go fun t q => X.iaload hx (by rw [eT]; exact A.1) (State.isArrayOf_alike hZ.alike A.2.1) A.2.2 (Ary.inb r hi (List.getElem?_eq_some_iff.mp hg).1) (Ary.at r hg) (g := mkF m pc L (.int i :: .ref a :: rest)) rfl rfl (hb hby hd) _ q
theorem own_laload (X : Stand p l e R s m args below meth c T locs cells slots) (hx : p.tables.exec = Jvm.exec) (hby : c.code = B) (hZ : Z.Warmed39 s.vm) (eT : T.heap = h) (V : Ary P Z h a .long vs) {i : Int32} (hi : ¬ i < 0) (hg : vs[i.toNatClampNeg]? = some v) (hd : decode B pc = .ok (.laload, 1)) (hp : pc + 1 = pc') (k : Gt p.tables e below F (T.setTop (mkF m pc' L (v :: rest)))) : Gt p.tables e below F (T.setTop (mkF m pc L (.int i :: .ref a :: rest))) := by
  subst hp
  obtain ⟨cl, A, -, r, t⟩ := V
  exact k.go fun t q => X.laload hx (by rw [eT]; exact A.1) (State.isArrayOf_alike hZ.alike A.2.1) A.2.2 (Ary.inb r hi (List.getElem?_eq_some_iff.mp hg).1) (Ary.at r hg) (g := mkF m pc L (.int i :: .ref a :: rest)) rfl rfl (hb hby hd) _ q
theorem own_daload (X : Stand p l e R s m args below meth c T locs cells slots) (hx : p.tables.exec = Jvm.exec) (hby : c.code = B) (hZ : Z.Warmed39 s.vm) (eT : T.heap = h) (V : Ary P Z h a .double vs) {i : Int32} (hi : ¬ i < 0) (hg : vs[i.toNatClampNeg]? = some v) (hd : decode B pc = .ok (.daload, 1)) (hp : pc + 1 = pc') (k : Gt p.tables e below F (T.setTop (mkF m pc' L (v :: rest)))) : Gt p.tables e below F (T.setTop (mkF m pc L (.int i :: .ref a :: rest))) := by
  subst hp
  obtain ⟨cl, A, -, r, t⟩ := V
  exact k.go fun t q => X.daload hx (by rw [eT]; exact A.1) (State.isArrayOf_alike hZ.alike A.2.1) A.2.2 (Ary.inb r hi (List.getElem?_eq_some_iff.mp hg).1) (Ary.at r hg) (g := mkF m pc L (.int i :: .ref a :: rest)) rfl rfl (hb hby hd) _ q
theorem own_aaload (X : Stand p l e R s m args below meth c T locs cells slots) (hx : p.tables.exec = Jvm.exec) (hby : c.code = B) (hZ : Z.Warmed39 s.vm) (eT : T.heap = h) (V : Ary P Z h a ty vs) (hty : ty.isReference = true) {i : Int32} (hi : ¬ i < 0) (hg : vs[i.toNatClampNeg]? = some v) (hd : decode B pc = .ok (.aaload, 1)) (hp : pc + 1 = pc') (k : Gt p.tables e below F (T.setTop (mkF m pc' L (v :: rest)))) : Gt p.tables e below F (T.setTop (mkF m pc L (.int i :: .ref a :: rest))) := by
  subst hp
  obtain ⟨cl, A, -, r, t⟩ := V
  exact k.go fun t q => X.aaload hx (by rw [eT]; exact A.1) (State.isArrayOf_alike hZ.alike A.2.1) hty A.2.2 (Ary.inb r hi (List.getElem?_eq_some_iff.mp hg).1) (Ary.at r hg) (g := mkF m pc L (.int i :: .ref a :: rest)) rfl rfl (hb hby hd) _ q
theorem own_iastore (X : Stand p l e R s m args below meth c T locs cells slots) (hx : p.tables.exec = Jvm.exec) (hby : c.code = B) (hZ : Z.Warmed39 s.vm) (eT : T.heap = h) (V : Ary P Z h a .int vs) {i x : Int32} {n : Nat} (hi : ¬ i < 0) (hn : i.toNatClampNeg = n) (hl : n < vs.length) (hd : decode B pc = .ok (.iastore, 1)) (hp : pc + 1 = pc') (k : ∀ T' h', Stand p l e R s m args below meth c T' (locs ++ [⟨a, n⟩]) cells slots → T'.heap = h' → Wr h h' a n (.int x) → Gt p.tables e below F (T'.setTop (mkF m pc' L rest))) : Gt p.tables e below F (T.setTop (mkF m pc L (.int x :: .int i :: .ref a :: rest))) := by
  subst hp hn
  obtain ⟨cl, A, -, r, t⟩ := V
  obtain ⟨T', h', X', e', W, st⟩ := stI X hx hZ eT A (Ary.inb r hi hl) (g := mkF m pc L (.int x :: .int i :: .ref a :: rest)) rfl rfl (hb hby hd)
  exact (k T' h' X' e' W).go st
theorem own_lastore (X : Stand p l e R s m args below meth c T locs cells slots) (hx : p.tables.exec = Jvm.exec) (hby : c.code = B) (hZ : Z.Warmed39 s.vm) (eT : T.heap = h) (V : Ary P Z h a .long vs) {i : Int32} {x : Int64} {n : Nat} (hi : ¬ i < 0) (hn : i.toNatClampNeg = n) (hl : n < vs.length) (hd : decode B pc = .ok (.lastore, 1)) (hp : pc + 1 = pc') (k : ∀ T' h', Stand p l e R s m args below meth c T' (locs ++ [⟨a, n⟩]) cells slots → T'.heap = h' → Wr h h' a n (.long x) → Gt p.tables e below F (T'.setTop (mkF m pc' L rest))) : Gt p.tables e below F (T.setTop (mkF m pc L (.long x :: .int i :: .ref a :: rest))) := by
  subst hp hn
  obtain ⟨cl, A, -, r, t⟩ := V
  obtain ⟨T', h', X', e', W, st⟩ := stJ X hx hZ eT A (Ary.inb r hi hl) (g := mkF m pc L (.long x :: .int i :: .ref a :: rest)) rfl rfl (hb hby hd)
  exact (k T' h' X' e' W).go st
theorem own_dastore (X : Stand p l e R s m args below meth c T locs cells slots) (hx : p.tables.exec = Jvm.exec) (hby : c.code = B) (hZ : Z.Warmed39 s.vm) (eT : T.heap = h) (V : Ary P Z h a .double vs) {i : Int32} {x : UInt64} {n : Nat} (hi : ¬ i < 0) (hn : i.toNatClampNeg = n) (hl : n < vs.length) (hd : decode B pc = .ok (.dastore, 1)) (hp : pc + 1 = pc') (k : ∀ T' h', Stand p l e R s m args below meth c T' (locs ++ [⟨a, n⟩]) cells slots → T'.heap = h' → Wr h h' a n (.double x) → Gt p.tables e below F (T'.setTop (mkF m pc' L rest))) : Gt p.tables e below F (T.setTop (mkF m pc L (.double x :: .int i :: .ref a :: rest))) := by
  subst hp hn
  obtain ⟨cl, A, -, r, t⟩ := V
  obtain ⟨T', h', X', e', W, st⟩ := stD X hx hZ eT A (Ary.inb r hi hl) (g := mkF m pc L (.double x :: .int i :: .ref a :: rest)) rfl rfl (hb hby hd)
  exact (k T' h' X' e' W).go st
/-- what lies in it: an array class over C -/
def ovA (Z : State) (ty : FieldType) (C : String) (k : ClassId) : Prop := OvrA Z k ty C
def ovO (Z : State) (C : String) (k : ClassId) : Prop := Ovr Z k C
theorem own_aastoreA (X : Stand p l e R s m args below meth c T locs cells slots) (hx : p.tables.exec = Jvm.exec) (hby : c.code = B) (hZ : Z.Warmed39 s.vm) (eT : T.heap = h) {C : String} (V : Ary (ovA Z ty C) Z h a (.array ty) vs) {i : Int32} {x : Addr} {n : Nat} (E : Exa Z h x C) (hi : ¬ i < 0) (hn : i.toNatClampNeg = n) (hl : n < vs.length) (hd : decode B pc = .ok (.aastore, 1)) (hp : pc + 1 = pc') (k : ∀ T' h', Stand p l e R s m args below meth c T' (locs ++ [⟨a, n⟩]) cells slots → T'.heap = h' → Wr h h' a n (.ref x) → Gt p.tables e below F (T'.setTop (mkF m pc' L rest))) : Gt p.tables e below F (T.setTop (mkF m pc L (.ref x :: .int i :: .ref a :: rest))) := by
  subst hp hn
  obtain ⟨cl, A, O, r, t⟩ := V
  obtain ⟨T', h', X', e', W, st⟩ := stR X hx hZ eT A (Ary.inb r hi hl) rfl (Sto.ofVA A rfl O (Ins.self E)) (g := mkF m pc L (.ref x :: .int i :: .ref a :: rest)) rfl rfl (hb hby hd)
  exact (k T' h' X' e' W).go st
theorem own_aastoreO (X : Stand p l e R s m args below meth c T locs cells slots) (hx : p.tables.exec = Jvm.exec) (hby : c.code = B) (hZ : Z.Warmed39 s.vm) (eT : T.heap = h) {C : String} (V : Ary (ovO Z C) Z h a (.object C) vs) {i : Int32} {x : Addr} {n : Nat} (E : Exa Z h x C) (hi : ¬ i < 0) (hn : i.toNatClampNeg = n) (hl : n < vs.length) (hd : decode B pc = .ok (.aastore, 1)) (hp : pc + 1 = pc') (k : ∀ T' h', Stand p l e R s m args below meth c T' (locs ++ [⟨a, n⟩]) cells slots → T'.heap = h' → Wr h h' a n (.ref x) → Gt p.tables e below F (T'.setTop (mkF m pc' L rest))) : Gt p.tables e below F (T.setTop (mkF m pc L (.ref x :: .int i :: .ref a :: rest))) := by
  subst hp hn
  obtain ⟨cl, A, O, r, t⟩ := V
  obtain ⟨T', h', X', e', W, st⟩ := stR X hx hZ eT A (Ary.inb r hi hl) rfl (Sto.of A O (Ins.self E)) (g := mkF m pc L (.ref x :: .int i :: .ref a :: rest)) rfl rfl (hb hby hd)
  exact (k T' h' X' e' W).go st
theorem own_newP (X : Stand p l e R s m args below meth c T locs cells slots) (hx : p.tables.exec = Jvm.exec) (hby : c.code = B) (hZ : Z.Warmed39 s.vm) {aty : ArrayType} (w : (Jvm.Cond.arrayClass (newarray.typeOf aty)).before a0 Z = true) (eT : T.heap = h) (hd : decode B pc = .ok (.newarray aty, 2)) (hp : pc + 2 = pc') {n : Int32} (hn : ¬ n < 0) {N : Nat} (hN : n.toNatClampNeg = N) {cap : Nat} (hcap : N ≤ cap) (hbb : cap * 8 ≤ 536870912) (hc : cells + 1 ≤ R.cells) (hl : slots + cap ≤ R.slots) {ad : String} (had : "[" ++ (newarray.typeOf aty).toString = ad)
    (k : ∀ T' h' a, Stand p l e R s m args below meth c T' locs (cells + 1) (slots + cap) → T'.heap = h' → Ext h h' → h.size = a → Exa Z h' a ad → Ary tr Z h' a (newarray.typeOf aty) (List.replicate N (defaultValue (newarray.typeOf aty))) → Gt p.tables e below F (T'.setTop (mkF m pc' L (.ref a :: rest)))) : Gt p.tables e below F (T.setTop (mkF m pc L (.int n :: rest))) := by
  subst hp hN
  obtain ⟨T', h', cA, X', e', E', A', Ex, st⟩ := newPE X hx hZ w eT (g := mkF m pc L (.int n :: rest)) rfl (hb hby hd) rfl hn hcap hbb hc hl had
  exact (k T' h' _ X' e' E' rfl Ex ⟨_, A', trivial, by simp [newA], by rw [List.length_replicate]; exact (back32 hn).2⟩).go st
theorem own_newRA (X : Stand p l e R s m args below meth c T locs cells slots) (hx : p.tables.exec = Jvm.exec) (hby : c.code = B) (hZ : Z.Warmed39 s.vm) {own C : String} {index : Nat} (hown : s.vm.findClass own = some m.cls) (hC : (FieldType.array ty).toString = C) (w1 : (Jvm.Cond.classLink own index C).before a0 Z = true) (w2 : (Jvm.Cond.arrayOver (.array ty)).before a0 Z = true) (eT : T.heap = h) (hd : decode B pc = .ok (.anewarray index, 3)) (hp : pc + 3 = pc') {n : Int32} (hn : ¬ n < 0) {N : Nat} (hN : n.toNatClampNeg = N) {cap : Nat} (hcap : N ≤ cap) (hbb : cap * 8 ≤ 536870912) (hc : cells + 1 ≤ R.cells) (hl : slots + cap ≤ R.slots) {ad : String} (had : "[" ++ C = ad)
    (k : ∀ T' h' a, Stand p l e R s m args below meth c T' locs (cells + 1) (slots + cap) → T'.heap = h' → Ext h h' → h.size = a → Exa Z h' a ad → Ary (ovA Z ty C) Z h' a (.array ty) (List.replicate N .null) → Gt p.tables e below F (T'.setTop (mkF m pc' L (.ref a :: rest)))) : Gt p.tables e below F (T.setTop (mkF m pc L (.int n :: rest))) := by
  subst hp hN
  obtain ⟨T', h', cA, X', e', E', A', Ex, O, st⟩ := newRA X hx hZ hown hC w1 w2 eT (g := mkF m pc L (.int n :: rest)) rfl (hb hby hd) rfl hn hcap hbb hc hl had
  exact (k T' h' _ X' e' E' rfl Ex ⟨_, A', O, by simp [newA, defaultValue], by rw [List.length_replicate]; exact (back32 hn).2⟩).go st
theorem own_newRO (X : Stand p l e R s m args below meth c T locs cells slots) (hx : p.tables.exec = Jvm.exec) (hby : c.code = B) (hZ : Z.Warmed39 s.vm) {own C : String} {index : Nat} (hown : s.vm.findClass own = some m.cls) (w1 : (Jvm.Cond.classLink own index C).before a0 Z = true) (w2 : (Jvm.Cond.arrayOver (.object C)).before a0 Z = true) (eT : T.heap = h) (hd : decode B pc = .ok (.anewarray index, 3)) (hp : pc + 3 = pc') {n : Int32} (hn : ¬ n < 0) {N : Nat} (hN : n.toNatClampNeg = N) {cap : Nat} (hcap : N ≤ cap) (hbb : cap * 8 ≤ 536870912) (hc : cells + 1 ≤ R.cells) (hl : slots + cap ≤ R.slots) {ad : String} (had : "[" ++ (FieldType.object C).toString = ad)
    (k : ∀ T' h' a, Stand p l e R s m args below meth c T' locs (cells + 1) (slots + cap) → T'.heap = h' → Ext h h' → h.size = a → Exa Z h' a ad → Ary (ovO Z C) Z h' a (.object C) (List.replicate N .null) → Gt p.tables e below F (T'.setTop (mkF m pc' L (.ref a :: rest)))) : Gt p.tables e below F (T.setTop (mkF m pc L (.int n :: rest))) := by
  subst hp hN
  obtain ⟨T', h', cA, X', e', E', A', Ex, O, st⟩ := newRE X hx hZ hown w1 w2 eT (g := mkF m pc L (.int n :: rest)) rfl (hb hby hd) rfl hn hcap hbb hc hl had
  exact (k T' h' _ X' e' E' rfl Ex ⟨_, A', O, by simp [newA, defaultValue], by rw [List.length_replicate]; exact (back32 hn).2⟩).go st
/-- new T[3][3] of a primitive kind -/
theorem own_grid3 (X : Stand p l e R s m args below meth c T locs cells slots) (hx : p.tables.exec = Jvm.exec) (hby : c.code = B) (hZ : Z.Warmed39 s.vm) {own C ad : String} {index : Nat} (hown : s.vm.findClass own = some m.cls) (hC : (FieldType.array ty).toString = C) (had : "[" ++ C = ad)
    (w1 : (Jvm.Cond.classLink own index ad).before a0 Z = true) (w2 : (Jvm.Cond.arrayOver (.array ty)).before a0 Z = true) (w3 : (Jvm.Cond.arrayClass ty).before a0 Z = true) (eT : T.heap = h) (hd : decode B pc = .ok (.multianewarray index 2, 4)) (hp : pc + 4 = pc') (hdf : fits ty (defaultValue ty) = true) (hdd : (defaultValue ty).isDefault = true) (hc : cells + 4 ≤ R.cells) (hl : slots + 12 ≤ R.slots)
    (k : ∀ T' h' a b1 b2 b3, Stand p l e R s m args below meth c T' locs (cells + 4) (slots + 12) → T'.heap = h' → Ext h h' → h.size = a → a < b1 → b1 < b2 → b2 < b3 → Exa Z h' a ad → Ary (ovA Z ty C) Z h' a (.array ty) [.ref b1, .ref b2, .ref b3] → Exa Z h' b1 C → Exa Z h' b2 C → Exa Z h' b3 C → Ary tr Z h' b1 ty [defaultValue ty, defaultValue ty, defaultValue ty] → Ary tr Z h' b2 ty [defaultValue ty, defaultValue ty, defaultValue ty] → Ary tr Z h' b3 ty [defaultValue ty, defaultValue ty, defaultValue ty] → Gt p.tables e below F (T'.setTop (mkF m pc' L (.ref a :: rest)))) : Gt p.tables e below F (T.setTop (mkF m pc L (.int 3 :: .int 3 :: rest))) := by
  subst hp
  obtain ⟨T', h', cA, comp, X', e', E', ⟨cl, A1, A2, A3, A4, A5, A6⟩, O, Ex, I, st⟩ := gridM X hx hZ hown hC had w1 w2 w3 eT (g := mkF m pc L (.int 3 :: .int 3 :: rest)) rfl (hb hby hd) (n := 3) (k := 3) rfl (by decide) (by decide) (N := 3) (by decide) (xs := [h.size + 1, h.size + 2, h.size + 3]) rfl (cap := 3) (by decide) (by decide) (by decide) hdf hdd hc hl
  have i1 := I 0 _ rfl; have i2 := I 1 _ rfl; have i3 := I 2 _ rfl
  have f : ∀ x, Arr Z h' x (newA comp ty 3) ty → Ary tr Z h' x ty [defaultValue ty, defaultValue ty, defaultValue ty] := fun x q => ⟨_, q, trivial, by simp [newA], by show 3 < 2 ^ 31; decide⟩
  refine (k T' h' _ _ _ _ X' e' E' rfl (Nat.lt_succ_self _) (Nat.lt_succ_self _) (Nat.lt_succ_self _) Ex ⟨cl, A1, A2 ▸ O, ?_, by show 3 < 2 ^ 31; decide⟩ i1.2 i2.2 i3.2 (f _ i1.1) (f _ i2.1) (f _ i3.1)).go st
  have sz : cl.slots.size = 3 := A3
  refine List.ext_getElem? fun i => ?_
  by_cases hi : i < 3
  · have q := A5 i (by omega)
    rw [Array.getElem?_toList, q]
    match i, hi with
    | 0, _ => rfl
    | 1, _ => rfl
    | 2, _ => rfl
  · rw [List.getElem?_eq_none (by simp; omega), List.getElem?_eq_none (by simp; omega)]
end OwnA
section OwnL
theorem own_lget {α : Type} {L : List α} {d : α} {i : Nat} {f : α → Value} (h : i < L.length) : (L.map f)[i]? = some (f (L.getD i d)) := by
  rw [List.getElem?_map, List.getD_eq_getElem?_getD, List.getElem?_eq_getElem h]; rfl
theorem own_rg0 {i : Int32} {m : Int} (h : 0 ≤ i.toInt ∧ i.toInt < m) : ¬ i < 0 := by
  rw [Int32.lt_iff_toInt_lt]; have : (0 : Int32).toInt = 0 := by decide
  omega
theorem own_rgl {α : Type} {L : List α} {i : Int32} {m : Int} {n : Nat} (h : 0 ≤ i.toInt ∧ i.toInt < m) (hl : L.length = n) (e : m.toNat = n := by rfl) : i.toNatClampNeg < L.length := by
  show i.toInt.toNat < _; omega
end OwnL
section OwnC
variable {x y : UInt64} {i j : Int64} {a b : Int32}
abbrev dlt (x y : UInt64) : Prop := FP.dcmp x y = some .lt
abbrev dgt (x y : UInt64) : Prop := FP.dcmp x y = some .gt
abbrev deq (x y : UInt64) : Prop := FP.dcmp x y = some .eq
abbrev dle (x y : UInt64) : Prop := FP.dcmp x y = some .lt ∨ FP.dcmp x y = some .eq
abbrev dge (x y : UInt64) : Prop := FP.dcmp x y = some .gt ∨ FP.dcmp x y = some .eq
theorem own_dl_lt_p (h : dge x y) : ifCond.holds .lt (cmpValue (FP.dcmp x y) .l) = false := by
  unfold dge at h; revert h; generalize FP.dcmp x y = o; rcases o with _ | (_ | _ | _) <;> decide
theorem own_dl_lt_n (h : ¬ dge x y) : ifCond.holds .lt (cmpValue (FP.dcmp x y) .l) = true := by
  unfold dge at h; revert h; generalize FP.dcmp x y = o; rcases o with _ | (_ | _ | _) <;> decide
theorem own_dl_ge_p (h : dge x y) : ifCond.holds .ge (cmpValue (FP.dcmp x y) .l) = true := by
  unfold dge at h; revert h; generalize FP.dcmp x y = o; rcases o with _ | (_ | _ | _) <;> decide
theorem own_dl_ge_n (h : ¬ dge x y) : ifCond.holds .ge (cmpValue (FP.dcmp x y) .l) = false := by
  unfold dge at h; revert h; generalize FP.dcmp x y = o; rcases o with _ | (_ | _ | _) <;> decide
theorem own_dl_gt_p (h : dgt x y) : ifCond.holds .gt (cmpValue (FP.dcmp x y) .l) = true := by
  unfold dgt at h; revert h; generalize FP.dcmp x y = o; rcases o with _ | (_ | _ | _) <;> decide
theorem own_dl_gt_n (h : ¬ dgt x y) : ifCond.holds .gt (cmpValue (FP.dcmp x y) .l) = false := by
  unfold dgt at h; revert h; generalize FP.dcmp x y = o; rcases o with _ | (_ | _ | _) <;> decide
theorem own_dl_le_p (h : dgt x y) : ifCond.holds .le (cmpValue (FP.dcmp x y) .l) = false := by
  unfold dgt at h; revert h; generalize FP.dcmp x y = o; rcases o with _ | (_ | _ | _) <;> decide
theorem own_dl_le_n (h : ¬ dgt x y) : ifCond.holds .le (cmpValue (FP.dcmp x y) .l) = true := by
  unfold dgt at h; revert h; generalize FP.dcmp x y = o; rcases o with _ | (_ | _ | _) <;> decide
theorem own_dl_eq_p (h : deq x y) : ifCond.holds .eq (cmpValue (FP.dcmp x y) .l) = true := by
  unfold deq at h; revert h; generalize FP.dcmp x y = o; rcases o with _ | (_ | _ | _) <;> decide
theorem own_dl_eq_n (h : ¬ deq x y) : ifCond.holds .eq (cmpValue (FP.dcmp x y) .l) = false := by
  unfold deq at h; revert h; generalize FP.dcmp x y = o; rcases o with _ | (_ | _ | _) <;> decide
theorem own_dl_ne_p (h : deq x y) : ifCond.holds .ne (cmpValue (FP.dcmp x y) .l) = false := by
  unfold deq at h; revert h; generalize FP.dcmp x y = o; rcases o with _ | (_ | _ | _) <;> decide
theorem own_dl_ne_n (h : ¬ deq x y) : ifCond.holds .ne (cmpValue (FP.dcmp x y) .l) = true := by
  unfold deq at h; revert h; generalize FP.dcmp x y = o; rcases o with _ | (_ | _ | _) <;> decide
theorem own_dg_lt_p (h : dlt x y) : ifCond.holds .lt (cmpValue (FP.dcmp x y) .g) = true := by
  unfold dlt at h; revert h; generalize FP.dcmp x y = o; rcases o with _ | (_ | _ | _) <;> decide
theorem own_dg_lt_n (h : ¬ dlt x y) : ifCond.holds .lt (cmpValue (FP.dcmp x y) .g) = false := by
  unfold dlt at h; revert h; generalize FP.dcmp x y = o; rcases o with _ | (_ | _ | _) <;> decide
theorem own_dg_ge_p (h : dlt x y) : ifCond.holds .ge (cmpValue (FP.dcmp x y) .g) = false := by
  unfold dlt at h; revert h; generalize FP.dcmp x y = o; rcases o with _ | (_ | _ | _) <;> decide
theorem own_dg_ge_n (h : ¬ dlt x y) : ifCond.holds .ge (cmpValue (FP.dcmp x y) .g) = true := by
  unfold dlt at h; revert h; generalize FP.dcmp x y = o; rcases o with _ | (_ | _ | _) <;> decide
theorem own_dg_gt_p (h : dle x y) : ifCond.holds .gt (cmpValue (FP.dcmp x y) .g) = false := by
  unfold dle at h; revert h; generalize FP.dcmp x y = o; rcases o with _ | (_ | _ | _) <;> decide
theorem own_dg_gt_n (h : ¬ dle x y) : ifCond.holds .gt (cmpValue (FP.dcmp x y) .g) = true := by
  unfold dle at h; revert h; generalize FP.dcmp x y = o; rcases o with _ | (_ | _ | _) <;> decide
theorem own_dg_le_p (h : dle x y) : ifCond.holds .le (cmpValue (FP.dcmp x y) .g) = true := by
  unfold dle at h; revert h; generalize FP.dcmp x y = o; rcases o with _ | (_ | _ | _) <;> decide
theorem own_dg_le_n (h : ¬ dle x y) : ifCond.holds .le (cmpValue (FP.dcmp x y) .g) = false := by
  unfold dle at h; revert h; generalize FP.dcmp x y = o; rcases o with _ | (_ | _ | _) <;> decide
theorem own_dg_eq_p (h : deq x y) : ifCond.holds .eq (cmpValue (FP.dcmp x y) .g) = true := by
  unfold deq at h; revert h; generalize FP.dcmp x y = o; rcases o with _ | (_ | _ | _) <;> decide
theorem own_dg_eq_n (h : ¬ deq x y) : ifCond.holds .eq (cmpValue (FP.dcmp x y) .g) = false := by
  unfold deq at h; revert h; generalize FP.dcmp x y = o; rcases o with _ | (_ | _ | _) <;> decide
theorem own_dg_ne_p (h : deq x y) : ifCond.holds .ne (cmpValue (FP.dcmp x y) .g) = false := by
  unfold deq at h; revert h; generalize FP.dcmp x y = o; rcases o with _ | (_ | _ | _) <;> decide
theorem own_dg_ne_n (h : ¬ deq x y) : ifCond.holds .ne (cmpValue (FP.dcmp x y) .g) = true := by
  unfold deq at h; revert h; generalize FP.dcmp x y = o; rcases o with _ | (_ | _ | _) <;> decide
theorem own_lc_lt_p (h : i < j) : ifCond.holds .lt (if i > j then 1 else if i = j then 0 else -1 : Int32) = true := by
  simp only [gt_iff_lt, Int64.lt_iff_toInt_lt, ← Int64.toInt_inj] at h ⊢
  rcases Int.lt_trichotomy i.toInt j.toInt with q | q | q
  · rw [if_neg (by omega), if_neg (by omega)]; first | rfl | (exfalso; omega)
  · rw [if_neg (by omega), if_pos q]; first | rfl | (exfalso; omega)
  · rw [if_pos q]; first | rfl | (exfalso; omega)
theorem own_lc_lt_n (h : ¬ i < j) : ifCond.holds .lt (if i > j then 1 else if i = j then 0 else -1 : Int32) = false := by
  simp only [gt_iff_lt, Int64.lt_iff_toInt_lt, ← Int64.toInt_inj] at h ⊢
  rcases Int.lt_trichotomy i.toInt j.toInt with q | q | q
  · rw [if_neg (by omega), if_neg (by omega)]; first | rfl | (exfalso; omega)
  · rw [if_neg (by omega), if_pos q]; first | rfl | (exfalso; omega)
  · rw [if_pos q]; first | rfl | (exfalso; omega)
theorem own_lc_ge_p (h : i < j) : ifCond.holds .ge (if i > j then 1 else if i = j then 0 else -1 : Int32) = false := by
  simp only [gt_iff_lt, Int64.lt_iff_toInt_lt, ← Int64.toInt_inj] at h ⊢
  rcases Int.lt_trichotomy i.toInt j.toInt with q | q | q
  · rw [if_neg (by omega), if_neg (by omega)]; first | rfl | (exfalso; omega)
  · rw [if_neg (by omega), if_pos q]; first | rfl | (exfalso; omega)
  · rw [if_pos q]; first | rfl | (exfalso; omega)
theorem own_lc_ge_n (h : ¬ i < j) : ifCond.holds .ge (if i > j then 1 else if i = j then 0 else -1 : Int32) = true := by
  simp only [gt_iff_lt, Int64.lt_iff_toInt_lt, ← Int64.toInt_inj] at h ⊢
  rcases Int.lt_trichotomy i.toInt j.toInt with q | q | q
  · rw [if_neg (by omega), if_neg (by omega)]; first | rfl | (exfalso; omega)
  · rw [if_neg (by omega), if_pos q]; first | rfl | (exfalso; omega)
  · rw [if_pos q]; first | rfl | (exfalso; omega)
theorem own_lc_gt_p (h : j < i) : ifCond.holds .gt (if i > j then 1 else if i = j then 0 else -1 : Int32) = true := by
  simp only [gt_iff_lt, Int64.lt_iff_toInt_lt, ← Int64.toInt_inj] at h ⊢
  rcases Int.lt_trichotomy i.toInt j.toInt with q | q | q
  · rw [if_neg (by omega), if_neg (by omega)]; first | rfl | (exfalso; omega)
  · rw [if_neg (by omega), if_pos q]; first | rfl | (exfalso; omega)
  · rw [if_pos q]; first | rfl | (exfalso; omega)
theorem own_lc_gt_n (h : ¬ j < i) : ifCond.holds .gt (if i > j then 1 else if i = j then 0 else -1 : Int32) = false := by
  simp only [gt_iff_lt, Int64.lt_iff_toInt_lt, ← Int64.toInt_inj] at h ⊢
  rcases Int.lt_trichotomy i.toInt j.toInt with q | q | q
  · rw [if_neg (by omega), if_neg (by omega)]; first | rfl | (exfalso; omega)
  · rw [if_neg (by omega), if_pos q]; first | rfl | (exfalso; omega)
  · rw [if_pos q]; first | rfl | (exfalso; omega)
theorem own_lc_le_p (h : j < i) : ifCond.holds .le (if i > j then 1 else if i = j then 0 else -1 : Int32) = false := by
  simp only [gt_iff_lt, Int64.lt_iff_toInt_lt, ← Int64.toInt_inj] at h ⊢
  rcases Int.lt_trichotomy i.toInt j.toInt with q | q | q
  · rw [if_neg (by omega), if_neg (by omega)]; first | rfl | (exfalso; omega)
  · rw [if_neg (by omega), if_pos q]; first | rfl | (exfalso; omega)
  · rw [if_pos q]; first | rfl | (exfalso; omega)
theorem own_lc_le_n (h : ¬ j < i) : ifCond.holds .le (if i > j then 1 else if i = j then 0 else -1 : Int32) = true := by
  simp only [gt_iff_lt, Int64.lt_iff_toInt_lt, ← Int64.toInt_inj] at h ⊢
  rcases Int.lt_trichotomy i.toInt j.toInt with q | q | q
  · rw [if_neg (by omega), if_neg (by omega)]; first | rfl | (exfalso; omega)
  · rw [if_neg (by omega), if_pos q]; first | rfl | (exfalso; omega)
  · rw [if_pos q]; first | rfl | (exfalso; omega)
theorem own_lc_eq_p (h : i = j) : ifCond.holds .eq (if i > j then 1 else if i = j then 0 else -1 : Int32) = true := by
  simp only [gt_iff_lt, Int64.lt_iff_toInt_lt, ← Int64.toInt_inj] at h ⊢
  rcases Int.lt_trichotomy i.toInt j.toInt with q | q | q
  · rw [if_neg (by omega), if_neg (by omega)]; first | rfl | (exfalso; omega)
  · rw [if_neg (by omega), if_pos q]; first | rfl | (exfalso; omega)
  · rw [if_pos q]; first | rfl | (exfalso; omega)
theorem own_lc_eq_n (h : ¬ i = j) : ifCond.holds .eq (if i > j then 1 else if i = j then 0 else -1 : Int32) = false := by
  simp only [gt_iff_lt, Int64.lt_iff_toInt_lt, ← Int64.toInt_inj] at h ⊢
  rcases Int.lt_trichotomy i.toInt j.toInt with q | q | q
  · rw [if_neg (by omega), if_neg (by omega)]; first | rfl | (exfalso; omega)
  · rw [if_neg (by omega), if_pos q]; first | rfl | (exfalso; omega)
  · rw [if_pos q]; first | rfl | (exfalso; omega)
theorem own_lc_ne_p (h : i = j) : ifCond.holds .ne (if i > j then 1 else if i = j then 0 else -1 : Int32) = false := by
  simp only [gt_iff_lt, Int64.lt_iff_toInt_lt, ← Int64.toInt_inj] at h ⊢
  rcases Int.lt_trichotomy i.toInt j.toInt with q | q | q
  · rw [if_neg (by omega), if_neg (by omega)]; first | rfl | (exfalso; omega)
  · rw [if_neg (by omega), if_pos q]; first | rfl | (exfalso; omega)
  · rw [if_pos q]; first | rfl | (exfalso; omega)
theorem own_lc_ne_n (h : ¬ i = j) : ifCond.holds .ne (if i > j then 1 else if i = j then 0 else -1 : Int32) = true := by
  simp only [gt_iff_lt, Int64.lt_iff_toInt_lt, ← Int64.toInt_inj] at h ⊢
  rcases Int.lt_trichotomy i.toInt j.toInt with q | q | q
  · rw [if_neg (by omega), if_neg (by omega)]; first | rfl | (exfalso; omega)
  · rw [if_neg (by omega), if_pos q]; first | rfl | (exfalso; omega)
  · rw [if_pos q]; first | rfl | (exfalso; omega)
theorem own_i0_lt_p (h : a < 0) : ifCond.holds .lt a = true := (if0 _ _).trans (tlt h).1
theorem own_i0_lt_n (h : ¬ a < 0) : ifCond.holds .lt a = false := (if0 _ _).trans (flt h).1
theorem own_i0_ge_p (h : a < 0) : ifCond.holds .ge a = false := (if0 _ _).trans (tlt h).2.1
theorem own_i0_ge_n (h : ¬ a < 0) : ifCond.holds .ge a = true := (if0 _ _).trans (flt h).2.1
theorem own_i0_gt_p (h : 0 < a) : ifCond.holds .gt a = true := (if0 _ _).trans (tlt h).2.2.1
theorem own_i0_gt_n (h : ¬ 0 < a) : ifCond.holds .gt a = false := (if0 _ _).trans (flt h).2.2.1
theorem own_i0_le_p (h : 0 < a) : ifCond.holds .le a = false := (if0 _ _).trans (tlt h).2.2.2
theorem own_i0_le_n (h : ¬ 0 < a) : ifCond.holds .le a = true := (if0 _ _).trans (flt h).2.2.2
theorem own_i0_eq_p (h : a = 0) : ifCond.holds .eq a = true := (if0 _ _).trans (teq h).1
theorem own_i0_eq_n (h : ¬ a = 0) : ifCond.holds .eq a = false := (if0 _ _).trans (feq h).1
theorem own_i0_ne_p (h : a = 0) : ifCond.holds .ne a = false := (if0 _ _).trans (teq h).2
theorem own_i0_ne_n (h : ¬ a = 0) : ifCond.holds .ne a = true := (if0 _ _).trans (feq h).2
theorem own_ic_lt_p (h : a < b) : if_icmp.holds .lt a b = true := (tlt h).1
theorem own_ic_lt_n (h : ¬ a < b) : if_icmp.holds .lt a b = false := (flt h).1
theorem own_ic_ge_p (h : a < b) : if_icmp.holds .ge a b = false := (tlt h).2.1
theorem own_ic_ge_n (h : ¬ a < b) : if_icmp.holds .ge a b = true := (flt h).2.1
theorem own_ic_gt_p (h : b < a) : if_icmp.holds .gt a b = true := (tlt h).2.2.1
theorem own_ic_gt_n (h : ¬ b < a) : if_icmp.holds .gt a b = false := (flt h).2.2.1
theorem own_ic_le_p (h : b < a) : if_icmp.holds .le a b = false := (tlt h).2.2.2
theorem own_ic_le_n (h : ¬ b < a) : if_icmp.holds .le a b = true := (flt h).2.2.2
theorem own_ic_eq_p (h : a = b) : if_icmp.holds .eq a b = true := (teq h).1
theorem own_ic_eq_n (h : ¬ a = b) : if_icmp.holds .eq a b = false := (feq h).1
theorem own_ic_ne_p (h : a = b) : if_icmp.holds .ne a b = false := (teq h).2
theorem own_ic_ne_n (h : ¬ a = b) : if_icmp.holds .ne a b = true := (feq h).2
end OwnC
section OwnF
open Jvm.FP.Core (val64 zval zmag b64 one64 DFin DZero good_b64 val64_fits inUnits signed sgn)
/-- the value in units of 2^-1074 -/
abbrev zv (x : UInt64) : Int := zval b64 (val64 x)
def uu : Int := ((one64 : Nat) : Int)
theorem uu_pos : 0 < uu := by have := FP.Core.one64_pos; show (0 : Int) < ((one64 : Nat) : Int); omega
theorem own_add_le {x y V : UInt64} (hx : DFin x) (hy : DFin y) (hV : val64 V ≠ .nan) (h : zv x + zv y ≤ zv V) : zv (FP.dadd x y) ≤ zv V := by
  show zval b64 (val64 (FP.Core.dadd x y)) ≤ _
  rw [FP.Core.val64_dadd]; exact FP.Core.sum_le good_b64 hx hy (val64_fits x) (val64_fits y) (val64_fits V) hV h
theorem own_add_ge {x y V : UInt64} (hx : DFin x) (hy : DFin y) (hV : val64 V ≠ .nan) (h : zv V ≤ zv x + zv y) : zv V ≤ zv (FP.dadd x y) := by
  show _ ≤ zval b64 (val64 (FP.Core.dadd x y))
  rw [FP.Core.val64_dadd]; exact FP.Core.sum_ge good_b64 hx hy (val64_fits x) (val64_fits y) (val64_fits V) hV h
theorem own_neg_fin {y : UInt64} (hy : DFin y) : ∃ s c q, FP.Core.negate (val64 y) = .fin s c q := by
  obtain ⟨s, c, q, h⟩ := hy; exact ⟨!s, c, q, by rw [h]; rfl⟩
theorem own_sub_le {x y V : UInt64} (hx : DFin x) (hy : DFin y) (hV : val64 V ≠ .nan) (h : zv x - zv y ≤ zv V) : zv (FP.dsub x y) ≤ zv V := by
  show zval b64 (val64 (FP.Core.dsub x y)) ≤ _
  rw [FP.Core.val64_dsub]; exact FP.Core.sum_le good_b64 hx (own_neg_fin hy) (val64_fits x) (FP.Core.negate_fits (val64_fits y)) (val64_fits V) hV (by rw [FP.Core.zval_negate]; unfold zv at h; omega)
theorem own_sub_ge {x y V : UInt64} (hx : DFin x) (hy : DFin y) (hV : val64 V ≠ .nan) (h : zv V ≤ zv x - zv y) : zv V ≤ zv (FP.dsub x y) := by
  show _ ≤ zval b64 (val64 (FP.Core.dsub x y))
  rw [FP.Core.val64_dsub]; exact FP.Core.sum_ge good_b64 hx (own_neg_fin hy) (val64_fits x) (FP.Core.negate_fits (val64_fits y)) (val64_fits V) hV (by rw [FP.Core.zval_negate]; unfold zv at h; omega)
theorem own_signed_mul (s t : Bool) (m n : Nat) : signed (s != t) (m * n) = signed s m * signed t n := by
  cases s <;> cases t <;> simp [signed, Int.neg_mul, Int.mul_neg]
theorem own_qm : b64.qmin = -1074 := by decide
theorem own_pow_e0 : ((2 ^ (b64.qmin - 2 * b64.qmin).toNat : Nat) : Int) = uu := by
  show _ = ((one64 : Nat) : Int); rw [← FP.Core.pow_qmin64]; congr 3
theorem own_mul_le {x y V : UInt64} (hx : DFin x) (hy : DFin y) (hV : val64 V ≠ .nan) (h : zv x * zv y ≤ zv V * uu) : zv (FP.dmul x y) ≤ zv V := by
  show zval b64 (val64 (FP.Core.dmul x y)) ≤ _
  obtain ⟨s, c, q, ex⟩ := hx
  obtain ⟨t, d, r, ey⟩ := hy
  have fx := val64_fits x; have fy := val64_fits y
  rw [ex] at fx; rw [ey] at fy
  unfold zv at h
  rw [ex, ey] at h
  rw [FP.Core.val64_dmul, ex, ey]
  obtain ⟨e1, e2, e3⟩ := FP.Core.product_units fx fy
  rw [e1]
  refine FP.Core.zval_round_le good_b64 (val64_fits V) hV (e0 := 2 * b64.qmin) (by rw [own_qm]; decide) e2 ?_
  rw [e3, own_pow_e0, own_signed_mul]; exact h
theorem own_mul_ge {x y V : UInt64} (hx : DFin x) (hy : DFin y) (hV : val64 V ≠ .nan) (h : zv V * uu ≤ zv x * zv y) : zv V ≤ zv (FP.dmul x y) := by
  show _ ≤ zval b64 (val64 (FP.Core.dmul x y))
  obtain ⟨s, c, q, ex⟩ := hx
  obtain ⟨t, d, r, ey⟩ := hy
  have fx := val64_fits x; have fy := val64_fits y
  rw [ex] at fx; rw [ey] at fy
  unfold zv at h
  rw [ex, ey] at h
  rw [FP.Core.val64_dmul, ex, ey]
  obtain ⟨e1, e2, e3⟩ := FP.Core.product_units fx fy
  rw [e1]
  refine FP.Core.zval_round_ge good_b64 (val64_fits V) hV (e0 := 2 * b64.qmin) (by rw [own_qm]; decide) e2 ?_
  rw [e3, own_pow_e0, own_signed_mul]; exact h
/-- a quotient's two sides in whole units -/
theorem own_div_units {c d : Nat} {q r : Int} (hq : -1074 ≤ q) (hr : -1074 ≤ r) (hr2 : r ≤ 971) (v : Nat) :
    ∃ k : Nat, 0 < k ∧ inUnits c (q - r) (-2148) * k = inUnits c q (-1074) * one64 * 2 ^ 1074 ∧ (v * 2 ^ (1074 : Nat) * d) * k = v * inUnits d r (-1074) * 2 ^ 1074 := by
  refine ⟨2 ^ (r + 1074).toNat, Nat.two_pow_pos _, ?_, ?_⟩
  · unfold inUnits one64
    rw [Nat.mul_assoc, ← Nat.pow_add, Nat.mul_assoc, Nat.mul_assoc, ← Nat.pow_add, ← Nat.pow_add, show (q - r - -2148).toNat + (r + 1074).toNat = (q - -1074).toNat + (1074 + 1074) by omega]
  · unfold inUnits
    rw [show (r - -1074).toNat = (r + 1074).toNat by omega]
    generalize 2 ^ (1074 : Nat) = w
    generalize 2 ^ (r + 1074).toNat = u
    simp only [Nat.mul_comm, Nat.mul_left_comm, Nat.mul_assoc]
theorem own_div_mag_le {x y V : UInt64} (hx : DFin x) (hy : DFin y) (hz : ¬ DZero y) (hV : val64 V ≠ .nan) (h : zmag b64 (val64 x) * one64 ≤ zmag b64 (val64 V) * zmag b64 (val64 y)) : zmag b64 (val64 (FP.ddiv x y)) ≤ zmag b64 (val64 V) := by
  show zmag b64 (val64 (FP.Core.ddiv x y)) ≤ _
  obtain ⟨s, c, q, ex⟩ := hx
  obtain ⟨t, d, r, ey⟩ := hy
  have fx := val64_fits x; have fy := val64_fits y
  rw [ex] at fx; rw [ey] at fy
  have hd : d ≠ 0 := fun e => hz ⟨t, r, by rw [ey, e]⟩
  rw [FP.Core.val64_ddiv, ex, ey]
  rw [ex, ey] at h
  show zmag b64 (if d = 0 then _ else FP.Core.roundRatio b64 (s != t) c d (q - r)) ≤ _
  rw [if_neg hd]
  have b1 : -1074 ≤ q := own_qm ▸ fx.2.1
  have b2 : -1074 ≤ r := own_qm ▸ fy.2.1
  have b3 : r ≤ 971 := fy.2.2.1
  refine FP.Core.zmag_roundRatio_le good_b64 (Nat.pos_of_ne_zero hd) (val64_fits V) hV (e0 := -2148) (by rw [own_qm]; decide) (by omega) ?_
  obtain ⟨k, hk, k1, k2⟩ := own_div_units (c := c) (d := d) b1 b2 b3 (zmag b64 (val64 V))
  rw [show (b64.qmin - -2148).toNat = 1074 by rw [own_qm]; decide]
  refine Nat.le_of_mul_le_mul_right ?_ hk
  rw [k1, k2]
  exact Nat.mul_le_mul_right _ (by have := h; simp only [zmag, own_qm] at this; exact this)
theorem own_div_mag_ge {x y V : UInt64} (hx : DFin x) (hy : DFin y) (hz : ¬ DZero y) (h : zmag b64 (val64 V) * zmag b64 (val64 y) ≤ zmag b64 (val64 x) * one64) : zmag b64 (val64 V) ≤ zmag b64 (val64 (FP.ddiv x y)) := by
  show _ ≤ zmag b64 (val64 (FP.Core.ddiv x y))
  obtain ⟨s, c, q, ex⟩ := hx
  obtain ⟨t, d, r, ey⟩ := hy
  have fx := val64_fits x; have fy := val64_fits y
  rw [ex] at fx; rw [ey] at fy
  have hd : d ≠ 0 := fun e => hz ⟨t, r, by rw [ey, e]⟩
  rw [FP.Core.val64_ddiv, ex, ey]
  rw [ex, ey] at h
  show _ ≤ zmag b64 (if d = 0 then _ else FP.Core.roundRatio b64 (s != t) c d (q - r))
  rw [if_neg hd]
  have b1 : -1074 ≤ q := own_qm ▸ fx.2.1
  have b2 : -1074 ≤ r := own_qm ▸ fy.2.1
  have b3 : r ≤ 971 := fy.2.2.1
  refine FP.Core.zmag_roundRatio_ge good_b64 (Nat.pos_of_ne_zero hd) (val64_fits V) (e0 := -2148) (by rw [own_qm]; decide) (by omega) ?_
  obtain ⟨k, hk, k1, k2⟩ := own_div_units (c := c) (d := d) b1 b2 b3 (zmag b64 (val64 V))
  rw [show (b64.qmin - -2148).toNat = 1074 by rw [own_qm]; decide]
  refine Nat.le_of_mul_le_mul_right ?_ hk
  rw [k1, k2]
  exact Nat.mul_le_mul_right _ (by have := h; simp only [zmag, own_qm] at this; exact this)
theorem own_sgn_div {x y : UInt64} (hx : DFin x) (hy : DFin y) (hz : ¬ DZero y) : sgn (val64 (FP.ddiv x y)) = (sgn (val64 x) != sgn (val64 y)) := by
  show sgn (val64 (FP.Core.ddiv x y)) = _
  obtain ⟨s, c, q, ex⟩ := hx
  obtain ⟨t, d, r, ey⟩ := hy
  have hd : d ≠ 0 := fun e => hz ⟨t, r, by rw [ey, e]⟩
  rw [FP.Core.val64_ddiv, ex, ey]
  show sgn (if d = 0 then _ else FP.Core.roundRatio b64 (s != t) c d (q - r)) = _
  rw [if_neg hd, FP.Core.sgn_roundRatio]; rfl
theorem own_notz {y : UInt64} (hy : DFin y) (h : 0 < zv y) : ¬ DZero y := fun q => by have := q.zval; unfold zv at h; omega
theorem own_possg {y : UInt64} (h : 0 < zv y) : sgn (val64 y) = false ∧ ((zmag b64 (val64 y) : Nat) : Int) = zv y := by
  unfold zv zval at *
  cases e : sgn (val64 y) <;> rw [e] at h <;> simp only [signed, if_true, Bool.false_eq_true, if_false] at h ⊢
  · exact ⟨trivial, trivial⟩
  · omega
theorem own_div_le {x y V : UInt64} (hx : DFin x) (hy : DFin y) (h0 : 0 < zv y) (hV : val64 V ≠ .nan) (h : zv x * uu ≤ zv V * zv y) : zv (FP.ddiv x y) ≤ zv V := by
  have hz := own_notz hy h0
  obtain ⟨s1, s2⟩ := own_possg h0
  have sd := own_sgn_div hx hy hz
  have L := own_div_mag_le (V := V) hx hy hz hV
  have G := own_div_mag_ge (V := V) hx hy hz
  rw [← s2] at h
  have hy0 : 0 < zmag b64 (val64 y) := by omega
  unfold zv zval at h ⊢
  rw [sd, s1]
  have u0 := FP.Core.one64_pos
  have e : uu = ((one64 : Nat) : Int) := rfl
  rw [e] at h
  generalize zmag b64 (val64 y) = my at *
  generalize zmag b64 (val64 x) = mx at *
  generalize zmag b64 (val64 V) = mv at *
  generalize zmag b64 (val64 (FP.ddiv x y)) = md at *
  generalize one64 = u at *
  have p1 : ((mx : Nat) : Int) * ((u : Nat) : Int) = ((mx * u : Nat) : Int) := (Int.natCast_mul ..).symm
  have p2 : ((mv : Nat) : Int) * ((my : Nat) : Int) = ((mv * my : Nat) : Int) := (Int.natCast_mul ..).symm
  have z1 : mv * my = 0 → mv = 0 := fun q => by rcases Nat.mul_eq_zero.mp q with q | q <;> omega
  generalize sgn (val64 x) = sx at h ⊢
  generalize sgn (val64 V) = sV at h ⊢
  cases sx <;> cases sV <;> simp only [signed, if_true, Bool.false_eq_true, if_false, Int.neg_mul, p1, p2, bne_self_eq_false, Bool.bne_false] at h ⊢
  · have := L (by omega); omega
  · have := L (by omega); have := z1 (by omega); omega
  · omega
  · have := G (by omega); omega
theorem own_div_ge {x y V : UInt64} (hx : DFin x) (hy : DFin y) (h0 : 0 < zv y) (hV : val64 V ≠ .nan) (h : zv V * zv y ≤ zv x * uu) : zv V ≤ zv (FP.ddiv x y) := by
  have hz := own_notz hy h0
  obtain ⟨s1, s2⟩ := own_possg h0
  have sd := own_sgn_div hx hy hz
  have L := own_div_mag_le (V := V) hx hy hz hV
  have G := own_div_mag_ge (V := V) hx hy hz
  rw [← s2] at h
  have hy0 : 0 < zmag b64 (val64 y) := by omega
  unfold zv zval at h ⊢
  rw [sd, s1]
  have u0 := FP.Core.one64_pos
  have e : uu = ((one64 : Nat) : Int) := rfl
  rw [e] at h
  generalize zmag b64 (val64 y) = my at *
  generalize zmag b64 (val64 x) = mx at *
  generalize zmag b64 (val64 V) = mv at *
  generalize zmag b64 (val64 (FP.ddiv x y)) = md at *
  generalize one64 = u at *
  have p1 : ((mx : Nat) : Int) * ((u : Nat) : Int) = ((mx * u : Nat) : Int) := (Int.natCast_mul ..).symm
  have p2 : ((mv : Nat) : Int) * ((my : Nat) : Int) = ((mv * my : Nat) : Int) := (Int.natCast_mul ..).symm
  have z1 : mv * my = 0 → mv = 0 := fun q => by rcases Nat.mul_eq_zero.mp q with q | q <;> omega
  generalize sgn (val64 x) = sx at h ⊢
  generalize sgn (val64 V) = sV at h ⊢
  cases sx <;> cases sV <;> simp only [signed, if_true, Bool.false_eq_true, if_false, Int.neg_mul, p1, p2, bne_self_eq_false, Bool.bne_false] at h ⊢
  · have := G (by omega); omega
  · omega
  · have := L (by omega); have := z1 (by omega); omega
  · have := L (by omega); omega
theorem own_bits_of_zv {x : UInt64} (hn : val64 x ≠ .nan) {V : UInt64} (hV : DFin V) (h : zv x = zv V) : DFin x := by
  have q := hV.zval_lt
  cases e : val64 x with
  | nan => exact absurd e hn
  | fin s c r => exact ⟨s, c, r, e⟩
  | inf s =>
    exfalso
    have a1 : (zv x).natAbs = zmag b64 (val64 x) := by unfold zv zval; cases sgn (val64 x) <;> simp [signed]
    have a2 : (zv V).natAbs = zmag b64 (val64 V) := by unfold zv zval; cases sgn (val64 V) <;> simp [signed]
    rw [h, a2, e] at a1
    rw [a1] at q
    exact Nat.lt_irrefl _ q
/-- every n / 2^k of at most 53 digits is a double -/
theorem own_rep (n : Int) (k : Nat) (h1 : n.natAbs < 9007199254740992) (hk : k ≤ 1074) : ∃ V : UInt64, DFin V ∧ zv V * ((2 ^ k : Nat) : Int) = n * uu := by
  obtain ⟨c', q', e1, e2⟩ := FP.Core.round_exact good_b64 (decide (n < 0)) (c := n.natAbs) (q := -(k : Int)) (by exact h1) (by rw [own_qm]; omega) (by have h971 : b64.qmax = 971 := (by decide); omega)
  have f := FP.Core.round_fits good_b64 (.fin (decide (n < 0)) n.natAbs (-(k : Int)))
  refine ⟨FP.Core.of64 (FP.Core.round b64 (.fin (decide (n < 0)) n.natAbs (-(k : Int)))), ⟨decide (n < 0), c', q', by rw [FP.Core.val64_of64 f, e1]⟩, ?_⟩
  unfold zv
  rw [FP.Core.val64_of64 f, e1]
  show signed (decide (n < 0)) (inUnits c' q' b64.qmin) * _ = _
  rw [e2]
  unfold inUnits
  rw [FP.Core.signed_mul, Int.mul_assoc, ← Int.natCast_mul, ← Nat.pow_add, show (-(k : Int) - b64.qmin).toNat + k = 1074 by rw [own_qm]; omega]
  have s0 : signed (decide (n < 0)) n.natAbs = n := by
    unfold signed
    by_cases q : n < 0 <;> simp [q] <;> omega
  rw [s0]; rfl
/-- x is the number n / 2^k -/
def Dy (x : UInt64) (n : Int) (k : Nat) : Prop := DFin x ∧ zv x * ((2 ^ k : Nat) : Int) = n * uu
theorem Dy.fin {x : UInt64} {n : Int} {k : Nat} (D : Dy x n k) : DFin x := D.1
theorem Dy.nn {x : UInt64} {n : Int} {k : Nat} (D : Dy x n k) : NoNaN64 x := Fl.val64_no.mpr D.1.ne_nan
theorem own_pk (k : Nat) : 0 < ((2 ^ k : Nat) : Int) := by have := Nat.two_pow_pos k; omega
theorem own_mid {a b c d : Int} {k : Nat} (h1 : a * ((2 ^ k : Nat) : Int) = c) (h2 : b * ((2 ^ k : Nat) : Int) = d) : (a ≤ b ↔ c ≤ d) ∧ (a < b ↔ c < d) ∧ (a = b ↔ c = d) := by
  have p := own_pk k
  subst h1 h2
  generalize ((2 ^ k : Nat) : Int) = w at *
  exact ⟨(Int.mul_le_mul_right p).symm, (Int.mul_lt_mul_right p).symm, ⟨fun q => by rw [q], fun q => Int.eq_of_mul_eq_mul_right (by omega) q⟩⟩
theorem Dy.cmp {x y : UInt64} {n m : Int} {k : Nat} (A : Dy x n k) (B : Dy y m k) : FP.dcmp x y = some (compare n m) := by
  show FP.Core.dcmp x y = _
  rw [FP.Core.dcmp_zval A.1.ne_nan B.1.ne_nan]
  congr 1
  obtain ⟨-, q2, q3⟩ := own_mid A.2 B.2
  have u := uu_pos
  refine FP.Core.compare_congr (q2.trans ⟨fun q => ?_, fun q => Int.mul_lt_mul_of_pos_right q u⟩) (q3.trans ⟨fun q => Int.eq_of_mul_eq_mul_right (by omega) q, fun q => by rw [q]⟩)
  exact Int.lt_of_mul_lt_mul_right q (Int.le_of_lt u)
theorem Dy.lt {x y : UInt64} {n m : Int} {k : Nat} (A : Dy x n k) (B : Dy y m k) : FP.dcmp x y = some .lt ↔ n < m := by
  rw [A.cmp B, Option.some.injEq, FP.Core.compare_lt_iff]
theorem Dy.gt {x y : UInt64} {n m : Int} {k : Nat} (A : Dy x n k) (B : Dy y m k) : FP.dcmp x y = some .gt ↔ m < n := by
  rw [A.cmp B, Option.some.injEq, FP.Core.compare_gt_iff]
theorem Dy.eq {x y : UInt64} {n m : Int} {k : Nat} (A : Dy x n k) (B : Dy y m k) : FP.dcmp x y = some .eq ↔ n = m := by
  rw [A.cmp B, Option.some.injEq, FP.Core.compare_eq_iff]
theorem Dy.of_zv {x V : UInt64} {n : Int} {k : Nat} (hn : val64 x ≠ .nan) (hV : DFin V) (e : zv V * ((2 ^ k : Nat) : Int) = n * uu) (h1 : zv x ≤ zv V) (h2 : zv V ≤ zv x) : Dy x n k := by
  have q : zv x = zv V := by omega
  exact ⟨own_bits_of_zv hn hV q, by rw [q]; exact e⟩
theorem own_nn_add {x y : UInt64} (hx : DFin x) (hy : DFin y) : val64 (FP.dadd x y) ≠ .nan := Fl.val64_no.mp (Fl.noNaN64_no.mpr (FP.Core.dadd_out hx.notNaN hy))
theorem own_nn_sub {x y : UInt64} (hx : DFin x) (hy : DFin y) : val64 (FP.dsub x y) ≠ .nan := Fl.val64_no.mp (Fl.noNaN64_no.mpr (FP.Core.dsub_out hx.notNaN hy))
theorem own_nn_mul {x y : UInt64} (hx : DFin x) (hy : DFin y) : val64 (FP.dmul x y) ≠ .nan := Fl.val64_no.mp (Fl.noNaN64_no.mpr (FP.Core.dmul_out hx hy))
theorem own_nn_div {x y : UInt64} (hx : DFin x) (hy : DFin y) (hz : ¬ DZero y) : val64 (FP.ddiv x y) ≠ .nan := Fl.val64_no.mp (Fl.noNaN64_no.mpr (FP.Core.ddiv_out hx.notNaN hy hz))
theorem Dy.add {x y : UInt64} {n m : Int} {k : Nat} (A : Dy x n k) (B : Dy y m k) (hb : (n + m).natAbs < 9007199254740992) (hk : k ≤ 1074) : Dy (FP.dadd x y) (n + m) k := by
  obtain ⟨V, fV, eV⟩ := own_rep (n + m) k hb hk
  have e : (zv x + zv y) * ((2 ^ k : Nat) : Int) = (n + m) * uu := by rw [Int.add_mul, A.2, B.2, Int.add_mul]
  obtain ⟨-, -, q⟩ := own_mid e eV
  have q := q.mpr rfl
  exact Dy.of_zv (own_nn_add A.1 B.1) fV eV (own_add_le A.1 B.1 fV.ne_nan (by omega)) (own_add_ge A.1 B.1 fV.ne_nan (by omega))
theorem Dy.sub {x y : UInt64} {n m : Int} {k : Nat} (A : Dy x n k) (B : Dy y m k) (hb : (n - m).natAbs < 9007199254740992) (hk : k ≤ 1074) : Dy (FP.dsub x y) (n - m) k := by
  obtain ⟨V, fV, eV⟩ := own_rep (n - m) k hb hk
  have e : (zv x - zv y) * ((2 ^ k : Nat) : Int) = (n - m) * uu := by rw [Int.sub_mul, A.2, B.2, Int.sub_mul]
  obtain ⟨-, -, q⟩ := own_mid e eV
  have q := q.mpr rfl
  exact Dy.of_zv (own_nn_sub A.1 B.1) fV eV (own_sub_le A.1 B.1 fV.ne_nan (by omega)) (own_sub_ge A.1 B.1 fV.ne_nan (by omega))
theorem own_alg1 {X Y K J n m u : Int} (a : X * K = n * u) (b : Y * J = m * u) : X * Y * (K * J) = n * m * u * u := by
  calc X * Y * (K * J) = (X * K) * (Y * J) := by ac_rfl
    _ = (n * u) * (m * u) := by rw [a, b]
    _ = n * m * u * u := by ac_rfl
theorem own_alg2 {V K N u : Int} (e : V * K = N * u) : V * u * K = N * u * u := by
  calc V * u * K = V * K * u := by ac_rfl
    _ = N * u * u := by rw [e]
theorem own_alg3 {X Y V K J I n m r u : Int} (a : X * K = n * u) (b : Y * J = m * u) (e : V * I = r * u) : X * u * (K * (J * I)) = n * (J * I) * (u * u) ∧ V * Y * (K * (J * I)) = r * m * K * (u * u) := by
  constructor
  · calc X * u * (K * (J * I)) = (X * K) * u * (J * I) := by ac_rfl
      _ = n * u * u * (J * I) := by rw [a]
      _ = n * (J * I) * (u * u) := by ac_rfl
  · calc V * Y * (K * (J * I)) = (V * I) * (Y * J) * K := by ac_rfl
      _ = (r * u) * (m * u) * K := by rw [e, b]
      _ = r * m * K * (u * u) := by ac_rfl
theorem Dy.mul {x y : UInt64} {n m : Int} {k j : Nat} (A : Dy x n k) (B : Dy y m j) (hb : (n * m).natAbs < 9007199254740992) (hk : k + j ≤ 1074) : Dy (FP.dmul x y) (n * m) (k + j) := by
  obtain ⟨V, fV, eV⟩ := own_rep (n * m) (k + j) hb hk
  have e : (zv x * zv y) * ((2 ^ (k + j) : Nat) : Int) = (n * m) * uu * uu := by
    rw [Nat.pow_add, Int.natCast_mul]; exact own_alg1 A.2 B.2
  have e' : (zv V * uu) * ((2 ^ (k + j) : Nat) : Int) = (n * m) * uu * uu := own_alg2 eV
  obtain ⟨-, -, q⟩ := own_mid e e'
  have q := q.mpr rfl
  exact Dy.of_zv (own_nn_mul A.1 B.1) fV eV (own_mul_le A.1 B.1 fV.ne_nan (by omega)) (own_mul_ge A.1 B.1 fV.ne_nan (by omega))
theorem Dy.pos {y : UInt64} {m : Int} {j : Nat} (B : Dy y m j) (hm : 0 < m) : 0 < zv y := by
  have p := own_pk j
  have b := B.2
  have : 0 < m * uu := Int.mul_pos hm uu_pos
  rw [← b] at this
  exact Int.lt_of_mul_lt_mul_right (by rw [Int.zero_mul]; exact this) (Int.le_of_lt p)
/-- an exact quotient -/
theorem Dy.div {x y : UInt64} {n m r : Int} {k j i : Nat} (A : Dy x n k) (B : Dy y m j) (hm : 0 < m) (hq : n * ((2 ^ (j + i) : Nat) : Int) = r * m * ((2 ^ k : Nat) : Int)) (hb : r.natAbs < 9007199254740992) (hi : i ≤ 1074) : Dy (FP.ddiv x y) r i := by
  obtain ⟨V, fV, eV⟩ := own_rep r i hb hi
  have h0 := B.pos hm
  have e : zv x * uu = zv V * zv y := by
    have pk := own_pk k; have pj := own_pk j; have pi := own_pk i
    rw [Nat.pow_add, Int.natCast_mul] at hq
    obtain ⟨a1, a2⟩ := own_alg3 A.2 B.2 eV
    refine Int.eq_of_mul_eq_mul_right (a := ((2 ^ k : Nat) : Int) * (((2 ^ j : Nat) : Int) * ((2 ^ i : Nat) : Int))) (Int.ne_of_gt (Int.mul_pos pk (Int.mul_pos pj pi))) ?_
    rw [a1, a2, hq]
  exact Dy.of_zv (own_nn_div A.1 B.1 (own_notz B.1 h0)) fV eV (own_div_le A.1 B.1 h0 fV.ne_nan (by omega)) (own_div_ge A.1 B.1 h0 fV.ne_nan (by omega))
theorem Dy.up {x : UInt64} {n : Int} {k : Nat} (A : Dy x n k) (j : Nat) : Dy x (n * ((2 ^ j : Nat) : Int)) (k + j) := by
  refine ⟨A.1, ?_⟩
  rw [Nat.pow_add, Int.natCast_mul, ← Int.mul_assoc, A.2]; exact Int.mul_right_comm _ _ _
theorem Dy.to {x : UInt64} {n n' : Int} {k : Nat} (A : Dy x n k) (e : n = n') : Dy x n' k := e ▸ A
theorem own_dy_int {x : UInt64} {i : Int} (h : FP.Core.DInt i x) : Dy x i 0 := by
  have z := FP.Core.DInt_zval h
  have n := FP.Core.DInt_ne_nan h
  refine ⟨?_, by rw [show ((2 ^ 0 : Nat) : Int) = 1 from rfl, Int.mul_one]; exact z⟩
  unfold FP.Core.DInt at h
  cases e : val64 x with
  | nan => exact absurd e n
  | inf s => rw [e] at h; exact h.elim
  | fin s c q => exact ⟨s, c, q, e⟩
theorem dy_i2d (a : Int32) : Dy (FP.i2d a) a.toInt 0 := own_dy_int (FP.Core.i2d_int a)
theorem dy_l2d {a : Int64} (h1 : -9007199254740992 < a.toInt) (h2 : a.toInt < 9007199254740992) : Dy (FP.l2d a) a.toInt 0 := own_dy_int (FP.Core.l2d_whole ⟨h1, h2⟩)
/-- 0.0 + x is x, bit for bit, for a finite x that isn't -0.0 -/
theorem own_zero_add {x : UInt64} {s : Bool} {c : Nat} {q : Int} (hx : val64 x = .fin s c q) (h0 : c = 0 → s = false) : FP.dadd 0 x = x := by
  show FP.Core.dadd 0 x = x
  have fx := val64_fits x
  rw [hx] at fx
  have hq := fx.2.1
  have key : val64 (FP.Core.dadd 0 x) = .fin s c q := by
    rw [FP.Core.val64_dadd, FP.Core.val64_zero, hx]
    have m : min b64.qmin q = b64.qmin := by omega
    have u : FP.Core.sumUnits false 0 b64.qmin s c q b64.qmin = signed s (inUnits c q b64.qmin) := by
      unfold FP.Core.sumUnits; simp [signed, inUnits]
    show FP.Core.roundRatio b64 (FP.Core.sumSign false s (FP.Core.sumUnits false 0 b64.qmin s c q (min b64.qmin q))) (FP.Core.sumUnits false 0 b64.qmin s c q (min b64.qmin q)).natAbs 1 (min b64.qmin q) = _
    rw [m, u]
    have na : (signed s (inUnits c q b64.qmin)).natAbs = inUnits c q b64.qmin := by unfold signed; cases s <;> simp
    have sg : FP.Core.sumSign false s (signed s (inUnits c q b64.qmin)) = s := by
      have pp := Nat.two_pow_pos (q - b64.qmin).toNat
      unfold FP.Core.sumSign
      by_cases c0 : c = 0
      · subst c0; simp [signed, inUnits, h0 rfl]
      · have : 0 < inUnits c q b64.qmin := Nat.mul_pos (Nat.pos_of_ne_zero c0) pp
        cases s <;> simp [signed] <;> omega
    rw [na, sg]
    refine FP.Core.roundRatio_exact good_b64 (by decide) fx ?_
    rw [show (b64.qmin - q).toNat = 0 by omega, Nat.pow_zero, Nat.mul_one, Nat.mul_one]; rfl
  exact FP.Core.val64_inj (by rw [key]; exact FP.Core.Datum.noConfusion) (key.trans hx.symm)
theorem own_scale3 {X Y n m r : Int} {k j i : Nat} {V : Int} (a : X * ((2 ^ k : Nat) : Int) = n * uu) (b : Y * ((2 ^ j : Nat) : Int) = m * uu) (e : V * ((2 ^ i : Nat) : Int) = r * uu) :
    X * uu * (((2 ^ k : Nat) : Int) * (((2 ^ j : Nat) : Int) * ((2 ^ i : Nat) : Int))) = n * ((2 ^ (j + i) : Nat) : Int) * (uu * uu) ∧ V * Y * (((2 ^ k : Nat) : Int) * (((2 ^ j : Nat) : Int) * ((2 ^ i : Nat) : Int))) = r * m * ((2 ^ k : Nat) : Int) * (uu * uu) := by
  rw [Nat.pow_add, Int.natCast_mul]; exact own_alg3 a b e
theorem Dy.div_le {x y V : UInt64} {n m r : Int} {k j i : Nat} (A : Dy x n k) (B : Dy y m j) (hm : 0 < m) (C : Dy V r i) (h : n * ((2 ^ (j + i) : Nat) : Int) ≤ r * m * ((2 ^ k : Nat) : Int)) : zv (FP.ddiv x y) ≤ zv V := by
  refine own_div_le A.1 B.1 (B.pos hm) C.1.ne_nan ?_
  obtain ⟨e1, e2⟩ := own_scale3 A.2 B.2 C.2
  have p : 0 < ((2 ^ k : Nat) : Int) * (((2 ^ j : Nat) : Int) * ((2 ^ i : Nat) : Int)) := Int.mul_pos (own_pk k) (Int.mul_pos (own_pk j) (own_pk i))
  refine Int.le_of_mul_le_mul_right ?_ p
  rw [e1, e2]
  exact Int.mul_le_mul_of_nonneg_right h (Int.le_of_lt (Int.mul_pos uu_pos uu_pos))
theorem Dy.div_ge {x y V : UInt64} {n m r : Int} {k j i : Nat} (A : Dy x n k) (B : Dy y m j) (hm : 0 < m) (C : Dy V r i) (h : r * m * ((2 ^ k : Nat) : Int) ≤ n * ((2 ^ (j + i) : Nat) : Int)) : zv V ≤ zv (FP.ddiv x y) := by
  refine own_div_ge A.1 B.1 (B.pos hm) C.1.ne_nan ?_
  obtain ⟨e1, e2⟩ := own_scale3 A.2 B.2 C.2
  have p : 0 < ((2 ^ k : Nat) : Int) * (((2 ^ j : Nat) : Int) * ((2 ^ i : Nat) : Int)) := Int.mul_pos (own_pk k) (Int.mul_pos (own_pk j) (own_pk i))
  refine Int.le_of_mul_le_mul_right ?_ p
  rw [e1, e2]
  exact Int.mul_le_mul_of_nonneg_right h (Int.le_of_lt (Int.mul_pos uu_pos uu_pos))
/-- the order of two numbers written over one power of two -/
theorem Dy.zle {x y : UInt64} {n m : Int} {k : Nat} (A : Dy x n k) (B : Dy y m k) : (zv x ≤ zv y ↔ n ≤ m) ∧ (zv x < zv y ↔ n < m) := by
  obtain ⟨q1, q2, -⟩ := own_mid A.2 B.2
  have u := uu_pos
  exact ⟨q1.trans ⟨fun q => Int.le_of_mul_le_mul_right q u, fun q => Int.mul_le_mul_of_nonneg_right q (Int.le_of_lt u)⟩, q2.trans ⟨fun q => Int.lt_of_mul_lt_mul_right q (Int.le_of_lt u), fun q => Int.mul_lt_mul_of_pos_right q u⟩⟩
end OwnF
theorem pn_com_example_bidfold_bidfold_BranchingLeansInPinLaw : plainName "com/example/bidfold/bidfold/BranchingLeansInPinLaw" = true := by first | (simp [plainName, overriddenIn]; done) | decide +kernel
theorem pn_com_example_bidfold_bidfold_Branching : plainName "com/example/bidfold/bidfold/Branching" = true := by first | (simp [plainName, overriddenIn]; done) | decide +kernel
theorem d1_0 : decode prog_13_method_1_code 0 = .ok (.aload_n 0, 1) := by decide +kernel
theorem d1_1 : decode prog_13_method_1_code 1 = .ok (.invokespecial 1, 3) := by decide +kernel
theorem d1_4 : decode prog_13_method_1_code 4 = .ok (.aload_n 0, 1) := by decide +kernel
theorem d1_5 : decode prog_13_method_1_code 5 = .ok (.iload_n 1, 1) := by decide +kernel
theorem d1_6 : decode prog_13_method_1_code 6 = .ok (.putfield 7, 3) := by decide +kernel
theorem d1_9 : decode prog_13_method_1_code 9 = .ok (.aload_n 0, 1) := by decide +kernel
theorem d1_10 : decode prog_13_method_1_code 10 = .ok (.lload_n 2, 1) := by decide +kernel
theorem d1_11 : decode prog_13_method_1_code 11 = .ok (.putfield 13, 3) := by decide +kernel
theorem d1_14 : decode prog_13_method_1_code 14 = .ok (.aload_n 0, 1) := by decide +kernel
theorem d1_15 : decode prog_13_method_1_code 15 = .ok (.iload_n 1, 1) := by decide +kernel
theorem d1_16 : decode prog_13_method_1_code 16 = .ok (.newarray .double, 2) := by decide +kernel
theorem d1_18 : decode prog_13_method_1_code 18 = .ok (.putfield 17, 3) := by decide +kernel
theorem d1_21 : decode prog_13_method_1_code 21 = .ok (.aload_n 0, 1) := by decide +kernel
theorem d1_22 : decode prog_13_method_1_code 22 = .ok (.iload_n 1, 1) := by decide +kernel
theorem d1_23 : decode prog_13_method_1_code 23 = .ok (.newarray .int, 2) := by decide +kernel
theorem d1_25 : decode prog_13_method_1_code 25 = .ok (.putfield 21, 3) := by decide +kernel
theorem d1_28 : decode prog_13_method_1_code 28 = .ok (.aload_n 0, 1) := by decide +kernel
theorem d1_29 : decode prog_13_method_1_code 29 = .ok (.iload_n 1, 1) := by decide +kernel
theorem d1_30 : decode prog_13_method_1_code 30 = .ok (.newarray .double, 2) := by decide +kernel
theorem d1_32 : decode prog_13_method_1_code 32 = .ok (.putfield 25, 3) := by decide +kernel
theorem d1_35 : decode prog_13_method_1_code 35 = .ok (.aload_n 0, 1) := by decide +kernel
theorem d1_36 : decode prog_13_method_1_code 36 = .ok (.iload_n 1, 1) := by decide +kernel
theorem d1_37 : decode prog_13_method_1_code 37 = .ok (.newarray .int, 2) := by decide +kernel
theorem d1_39 : decode prog_13_method_1_code 39 = .ok (.putfield 28, 3) := by decide +kernel
theorem d1_42 : decode prog_13_method_1_code 42 = .ok (.aload_n 0, 1) := by decide +kernel
theorem d1_43 : decode prog_13_method_1_code 43 = .ok (.iload_n 1, 1) := by decide +kernel
theorem d1_44 : decode prog_13_method_1_code 44 = .ok (.newarray .int, 2) := by decide +kernel
theorem d1_46 : decode prog_13_method_1_code 46 = .ok (.putfield 31, 3) := by decide +kernel
theorem d1_49 : decode prog_13_method_1_code 49 = .ok (.return_, 1) := by decide +kernel
theorem d3_0 : decode prog_13_method_3_code 0 = .ok (.dload_n 3, 1) := by decide +kernel
theorem d3_1 : decode prog_13_method_3_code 1 = .ok (.ldc2_w 46, 3) := by decide +kernel
theorem d3_4 : decode prog_13_method_3_code 4 = .ok (.dcmp .g, 1) := by decide +kernel
theorem d3_5 : decode prog_13_method_3_code 5 = .ok (.ifCond .le 11, 3) := by decide +kernel
theorem d3_8 : decode prog_13_method_3_code 8 = .ok (.dload_n 3, 1) := by decide +kernel
theorem d3_9 : decode prog_13_method_3_code 9 = .ok (.ldc2_w 48, 3) := by decide +kernel
theorem d3_12 : decode prog_13_method_3_code 12 = .ok (.dcmp .l, 1) := by decide +kernel
theorem d3_13 : decode prog_13_method_3_code 13 = .ok (.ifCond .lt 4, 3) := by decide +kernel
theorem d3_17 : decode prog_13_method_3_code 17 = .ok (.iload_n 2, 1) := by decide +kernel
theorem d3_18 : decode prog_13_method_3_code 18 = .ok (.ifCond .eq 31, 3) := by decide +kernel
theorem d3_21 : decode prog_13_method_3_code 21 = .ok (.aload_n 0, 1) := by decide +kernel
theorem d3_22 : decode prog_13_method_3_code 22 = .ok (.getfield 25, 3) := by decide +kernel
theorem d3_25 : decode prog_13_method_3_code 25 = .ok (.iload_n 1, 1) := by decide +kernel
theorem d3_26 : decode prog_13_method_3_code 26 = .ok (.dup2, 1) := by decide +kernel
theorem d3_27 : decode prog_13_method_3_code 27 = .ok (.daload, 1) := by decide +kernel
theorem d3_28 : decode prog_13_method_3_code 28 = .ok (.dload 5, 2) := by decide +kernel
theorem d3_30 : decode prog_13_method_3_code 30 = .ok (.dconst 1, 1) := by decide +kernel
theorem d3_31 : decode prog_13_method_3_code 31 = .ok (.dload_n 3, 1) := by decide +kernel
theorem d3_32 : decode prog_13_method_3_code 32 = .ok (.dsub, 1) := by decide +kernel
theorem d3_33 : decode prog_13_method_3_code 33 = .ok (.ddiv, 1) := by decide +kernel
theorem d3_34 : decode prog_13_method_3_code 34 = .ok (.dadd, 1) := by decide +kernel
theorem d3_35 : decode prog_13_method_3_code 35 = .ok (.dastore, 1) := by decide +kernel
theorem d3_36 : decode prog_13_method_3_code 36 = .ok (.aload_n 0, 1) := by decide +kernel
theorem d3_37 : decode prog_13_method_3_code 37 = .ok (.getfield 28, 3) := by decide +kernel
theorem d3_40 : decode prog_13_method_3_code 40 = .ok (.iload_n 1, 1) := by decide +kernel
theorem d3_41 : decode prog_13_method_3_code 41 = .ok (.dup2, 1) := by decide +kernel
theorem d3_42 : decode prog_13_method_3_code 42 = .ok (.iaload, 1) := by decide +kernel
theorem d3_43 : decode prog_13_method_3_code 43 = .ok (.iconst 1, 1) := by decide +kernel
theorem d3_44 : decode prog_13_method_3_code 44 = .ok (.iadd, 1) := by decide +kernel
theorem d3_45 : decode prog_13_method_3_code 45 = .ok (.iastore, 1) := by decide +kernel
theorem d3_46 : decode prog_13_method_3_code 46 = .ok (.goto 26, 3) := by decide +kernel
theorem d3_49 : decode prog_13_method_3_code 49 = .ok (.aload_n 0, 1) := by decide +kernel
theorem d3_50 : decode prog_13_method_3_code 50 = .ok (.getfield 17, 3) := by decide +kernel
theorem d3_53 : decode prog_13_method_3_code 53 = .ok (.iload_n 1, 1) := by decide +kernel
theorem d3_54 : decode prog_13_method_3_code 54 = .ok (.dup2, 1) := by decide +kernel
theorem d3_55 : decode prog_13_method_3_code 55 = .ok (.daload, 1) := by decide +kernel
theorem d3_56 : decode prog_13_method_3_code 56 = .ok (.dload 5, 2) := by decide +kernel
theorem d3_58 : decode prog_13_method_3_code 58 = .ok (.dload_n 3, 1) := by decide +kernel
theorem d3_59 : decode prog_13_method_3_code 59 = .ok (.ddiv, 1) := by decide +kernel
theorem d3_60 : decode prog_13_method_3_code 60 = .ok (.dadd, 1) := by decide +kernel
theorem d3_61 : decode prog_13_method_3_code 61 = .ok (.dastore, 1) := by decide +kernel
theorem d3_62 : decode prog_13_method_3_code 62 = .ok (.aload_n 0, 1) := by decide +kernel
theorem d3_63 : decode prog_13_method_3_code 63 = .ok (.getfield 21, 3) := by decide +kernel
theorem d3_66 : decode prog_13_method_3_code 66 = .ok (.iload_n 1, 1) := by decide +kernel
theorem d3_67 : decode prog_13_method_3_code 67 = .ok (.dup2, 1) := by decide +kernel
theorem d3_68 : decode prog_13_method_3_code 68 = .ok (.iaload, 1) := by decide +kernel
theorem d3_69 : decode prog_13_method_3_code 69 = .ok (.iconst 1, 1) := by decide +kernel
theorem d3_70 : decode prog_13_method_3_code 70 = .ok (.iadd, 1) := by decide +kernel
theorem d3_71 : decode prog_13_method_3_code 71 = .ok (.iastore, 1) := by decide +kernel
theorem d3_72 : decode prog_13_method_3_code 72 = .ok (.return_, 1) := by decide +kernel
theorem d4_0 : decode prog_13_method_4_code 0 = .ok (.aload_n 0, 1) := by decide +kernel
theorem d4_1 : decode prog_13_method_4_code 1 = .ok (.getfield 25, 3) := by decide +kernel
theorem d4_4 : decode prog_13_method_4_code 4 = .ok (.aload_n 0, 1) := by decide +kernel
theorem d4_5 : decode prog_13_method_4_code 5 = .ok (.getfield 28, 3) := by decide +kernel
theorem d4_8 : decode prog_13_method_4_code 8 = .ok (.iload_n 1, 1) := by decide +kernel
theorem d4_9 : decode prog_13_method_4_code 9 = .ok (.dconst 1, 1) := by decide +kernel
theorem d4_10 : decode prog_13_method_4_code 10 = .ok (.invokestatic 63, 3) := by decide +kernel
theorem d4_13 : decode prog_13_method_4_code 13 = .ok (.dconst 1, 1) := by decide +kernel
theorem d4_14 : decode prog_13_method_4_code 14 = .ok (.dload_n 2, 1) := by decide +kernel
theorem d4_15 : decode prog_13_method_4_code 15 = .ok (.dsub, 1) := by decide +kernel
theorem d4_16 : decode prog_13_method_4_code 16 = .ok (.dmul, 1) := by decide +kernel
theorem d4_17 : decode prog_13_method_4_code 17 = .ok (.aload_n 0, 1) := by decide +kernel
theorem d4_18 : decode prog_13_method_4_code 18 = .ok (.getfield 17, 3) := by decide +kernel
theorem d4_21 : decode prog_13_method_4_code 21 = .ok (.aload_n 0, 1) := by decide +kernel
theorem d4_22 : decode prog_13_method_4_code 22 = .ok (.getfield 21, 3) := by decide +kernel
theorem d4_25 : decode prog_13_method_4_code 25 = .ok (.iload_n 1, 1) := by decide +kernel
theorem d4_26 : decode prog_13_method_4_code 26 = .ok (.dconst 1, 1) := by decide +kernel
theorem d4_27 : decode prog_13_method_4_code 27 = .ok (.invokestatic 63, 3) := by decide +kernel
theorem d4_30 : decode prog_13_method_4_code 30 = .ok (.dload_n 2, 1) := by decide +kernel
theorem d4_31 : decode prog_13_method_4_code 31 = .ok (.dmul, 1) := by decide +kernel
theorem d4_32 : decode prog_13_method_4_code 32 = .ok (.dcmp .g, 1) := by decide +kernel
theorem d4_33 : decode prog_13_method_4_code 33 = .ok (.ifCond .gt 7, 3) := by decide +kernel
theorem d4_36 : decode prog_13_method_4_code 36 = .ok (.iconst 1, 1) := by decide +kernel
theorem d4_37 : decode prog_13_method_4_code 37 = .ok (.goto 4, 3) := by decide +kernel
theorem d4_40 : decode prog_13_method_4_code 40 = .ok (.iconst 0, 1) := by decide +kernel
theorem d4_41 : decode prog_13_method_4_code 41 = .ok (.ireturn, 1) := by decide +kernel
theorem d5_0 : decode prog_13_method_7_code 0 = .ok (.aload_n 1, 1) := by decide +kernel
theorem d5_1 : decode prog_13_method_7_code 1 = .ok (.iload_n 2, 1) := by decide +kernel
theorem d5_2 : decode prog_13_method_7_code 2 = .ok (.iaload, 1) := by decide +kernel
theorem d5_3 : decode prog_13_method_7_code 3 = .ok (.ifCond .le 14, 3) := by decide +kernel
theorem d5_6 : decode prog_13_method_7_code 6 = .ok (.aload_n 0, 1) := by decide +kernel
theorem d5_7 : decode prog_13_method_7_code 7 = .ok (.iload_n 2, 1) := by decide +kernel
theorem d5_8 : decode prog_13_method_7_code 8 = .ok (.daload, 1) := by decide +kernel
theorem d5_9 : decode prog_13_method_7_code 9 = .ok (.aload_n 1, 1) := by decide +kernel
theorem d5_10 : decode prog_13_method_7_code 10 = .ok (.iload_n 2, 1) := by decide +kernel
theorem d5_11 : decode prog_13_method_7_code 11 = .ok (.iaload, 1) := by decide +kernel
theorem d5_12 : decode prog_13_method_7_code 12 = .ok (.i2d, 1) := by decide +kernel
theorem d5_13 : decode prog_13_method_7_code 13 = .ok (.ddiv, 1) := by decide +kernel
theorem d5_14 : decode prog_13_method_7_code 14 = .ok (.goto 4, 3) := by decide +kernel
theorem d5_17 : decode prog_13_method_7_code 17 = .ok (.dload_n 3, 1) := by decide +kernel
theorem d5_18 : decode prog_13_method_7_code 18 = .ok (.dreturn, 1) := by decide +kernel
theorem pd_0 : parseMethodDescriptor "([D[IID)D" = some ⟨[(.array .double), (.array .int), .int, .double], some .double⟩ := by decide +kernel
theorem pd_1 : parseMethodDescriptor "(IJ)V" = some ⟨[.int, .long], none⟩ := by decide +kernel
theorem pd_2 : parseMethodDescriptor "(IZDD)V" = some ⟨[.int, .boolean, .double, .double], none⟩ := by decide +kernel
theorem pd_3 : parseMethodDescriptor "(ID)Z" = some ⟨[.int, .double], some .boolean⟩ := by decide +kernel
theorem own_c4517329193108106637 : Dy (4517329193108106637 : UInt64) (4722366482869645) 72 := ⟨⟨false, 4722366482869645, -72, by decide +kernel⟩, by decide +kernel⟩
theorem own_c4607182409792818153 : Dy (4607182409792818153 : UInt64) (9007190247541737) 53 := ⟨⟨false, 9007190247541737, -53, by decide +kernel⟩, by decide +kernel⟩
theorem own_c4607182418800017408 : Dy (4607182418800017408 : UInt64) (1) 0 := ⟨⟨false, 4503599627370496, -52, by decide +kernel⟩, by decide +kernel⟩
theorem own_c4602678819172646912 : Dy (4602678819172646912 : UInt64) (1) 1 := ⟨⟨false, 4503599627370496, -53, by decide +kernel⟩, by decide +kernel⟩
theorem own_c4620693217682128896 : Dy (4620693217682128896 : UInt64) (8) 0 := ⟨⟨false, 4503599627370496, -49, by decide +kernel⟩, by decide +kernel⟩
theorem own_c4616189618054758400 : Dy (4616189618054758400 : UInt64) (4) 0 := ⟨⟨false, 4503599627370496, -50, by decide +kernel⟩, by decide +kernel⟩

theorem ow_ladd {x y : Int64} (h : (x.toInt + y.toInt).natAbs < 9223372036854775808) : (x + y).toInt = x.toInt + y.toInt := FP.Core.int64_add (by omega) (by omega)
theorem ow_lsub {x y : Int64} (h : (x.toInt - y.toInt).natAbs < 9223372036854775808) : (x - y).toInt = x.toInt - y.toInt := FP.Core.int64_sub (by omega) (by omega)
theorem ow_lmul {x y : Int64} (h : (x.toInt * y.toInt).natAbs < 9223372036854775808) : (x * y).toInt = x.toInt * y.toInt := FP.Core.int64_mul (by omega) (by omega)

theorem own_d0 : Dy (0 : UInt64) 0 0 := ⟨⟨false, 0, -1074, by decide +kernel⟩, by decide +kernel⟩
theorem own_mb {a b : Int} {A B : Nat} (ha : a.natAbs ≤ A) (hb : b.natAbs ≤ B) : (a * b).natAbs ≤ A * B := by rw [Int.natAbs_mul]; exact Nat.mul_le_mul ha hb

theorem own_bit {p n : Int32} (q : p &&& (1 : Int32) = n) : n = 0 ∨ n = 1 := by
  have h := c_mask p 1 1 (by decide) (by decide)
  have e : ((2 ^ 1 : Nat) : Int) = 2 := by decide
  rw [e, q] at h
  have e0 : (0 : Int32).toInt = 0 := by decide
  have e1 : (1 : Int32).toInt = 1 := by decide
  simp only [← Int32.toInt_inj]
  omega
theorem own_m3 {p n : Int32} (q : (p &&& (3 : Int32)) % (3 : Int32) = n) : n.toInt = 0 ∨ n.toInt = 1 ∨ n.toInt = 2 := by
  have h := c_mask p 3 2 (by decide) (by decide)
  have e : ((2 ^ 2 : Nat) : Int) = 4 := by decide
  rw [e] at h
  have r := (c_irem (p &&& 3) 3 3 (by decide)).1 (by omega)
  rw [q] at r
  omega
theorem own_n3 {p n : Int32} (q : (p &&& (3 : Int32)) % (3 : Int32) = n) : n = 0 ∨ n = 1 ∨ n = 2 := by
  have h := own_m3 q
  have e0 : (0 : Int32).toInt = 0 := by decide
  have e1 : (1 : Int32).toInt = 1 := by decide
  have e2 : (2 : Int32).toInt = 2 := by decide
  simp only [← Int32.toInt_inj]
  omega
theorem own_q3 {p n : Int32} (q : (p &&& (3 : Int32)) % (3 : Int32) + (1 : Int32) = n) : n.toInt = 1 ∨ n.toInt = 2 ∨ n.toInt = 3 := by
  have h := own_m3 (p := p) rfl
  have a := c_iadd ((p &&& 3) % 3) 1
  have e1 : (1 : Int32).toInt = 1 := by decide
  have b := rng32 ((p &&& 3) % 3 + 1)
  rw [q, e1] at a
  rw [q] at b
  omega
theorem own_r9 {p n : Int32} (q : (p &&& (15 : Int32)) % (9 : Int32) = n) : 0 ≤ n.toInt ∧ n.toInt ≤ 8 := by
  have h := c_mask p 15 4 (by decide) (by decide)
  have e : ((2 ^ 4 : Nat) : Int) = 16 := by decide
  rw [e] at h
  have r := (c_irem (p &&& 15) 9 9 (by decide)).1 (by omega)
  rw [q] at r
  omega
theorem own_k10 {p n : Int32} (q : p &&& (1023 : Int32) = n) : 0 ≤ n.toInt ∧ n.toInt ≤ 1023 := by
  have h := c_mask p 1023 10 (by decide) (by decide)
  have e : ((2 ^ 10 : Nat) : Int) = 1024 := by decide
  rw [e, q] at h
  omega
theorem own_3k {n : Int32} (h : 0 ≤ n.toInt ∧ n.toInt ≤ 1023) : ((3 : Int32) * n).toInt = 3 * n.toInt := by
  have a := c_imul 3 n
  have e3 : (3 : Int32).toInt = 3 := by decide
  have b := rng32 (3 * n)
  rw [e3] at a
  omega
theorem own_q3r {p n : Int32} (q : (p &&& (3 : Int32)) % (3 : Int32) + (1 : Int32) = n) : 1 ≤ n.toInt ∧ n.toInt ≤ 3 := by
  have := own_q3 q; omega
theorem own_div4 {v l : UInt64} {n : Int} (q : FP.ddiv l (4616189618054758400 : UInt64) = v) (D : Dy l n 0) (h : 1 ≤ n ∧ n ≤ 3) : Dy v n 2 := by
  rw [← q]
  exact D.div own_c4616189618054758400 (by omega) (by rw [show ((2 ^ (0 + 2) : Nat) : Int) = 4 from rfl, show ((2 ^ 0 : Nat) : Int) = 1 from rfl]; omega) (by omega) (by omega)
theorem own_div8 {v l : UInt64} {n : Int} (q : FP.ddiv l (4620693217682128896 : UInt64) = v) (D : Dy l n 0) (h : 0 ≤ n ∧ n ≤ 8) : Dy v n 3 := by
  rw [← q]
  exact D.div own_c4620693217682128896 (by omega) (by rw [show ((2 ^ (0 + 3) : Nat) : Int) = 8 from rfl, show ((2 ^ 0 : Nat) : Int) = 1 from rfl]; omega) (by omega) (by omega)
theorem own_r4 {n : Int} (h : 1 ≤ n ∧ n ≤ 3) : 1 ≤ 4 - n ∧ 4 - n ≤ 3 := by omega
theorem own_b0 : (0 : Int) ≤ 0 ∧ (0 : Int) ≤ 20000 := by omega
theorem own_b1 {X : Int} (h : 0 ≤ X ∧ X ≤ 12276) : 0 ≤ 0 + X ∧ 0 + X ≤ 20000 := by omega
theorem own_b1' {X : Int} (h : 0 ≤ X ∧ X ≤ 12276) : 0 ≤ 0 + X ∧ 0 + X ≤ 30000 := by omega
theorem own_b2 {X Y : Int} (h : 0 ≤ X ∧ X ≤ 12276) (g : 0 ≤ Y ∧ Y ≤ 12276) : 0 ≤ 0 + X + Y ∧ 0 + X + Y ≤ 30000 := by omega
theorem own_t2 {s : Int} (h : 0 ≤ s ∧ s ≤ 30000) : 0 ≤ 2 * s ∧ 2 * s ≤ 60000 := by omega
theorem own_t1 {s : Int} (h : 0 ≤ s ∧ s ≤ 30000) : 0 ≤ s ∧ s ≤ 60000 := by omega
theorem own_tz : (0 : Int) ≤ 2 ∧ (2 : Int) ≤ 60000 := by omega
/-- the guards let 1/4, 2/4, 3/4 through -/
theorem own_g {v : UInt64} {n : Int} (D : Dy v n 2) (h : 1 ≤ n ∧ n ≤ 3) : ¬ dle v (4517329193108106637 : UInt64) ∧ ¬ dge v (4607182409792818153 : UInt64) := by
  have c1 := Dy.cmp (D.up 70) own_c4517329193108106637
  have c2 := Dy.cmp (D.up 51) own_c4607182409792818153
  rw [(FP.Core.compare_gt_iff _ _).mpr (by rw [show ((2 ^ 70 : Nat) : Int) = 1180591620717411303424 from rfl]; omega)] at c1
  rw [(FP.Core.compare_lt_iff _ _).mpr (by rw [show ((2 ^ 51 : Nat) : Int) = 2251799813685248 from rfl]; omega)] at c2
  refine ⟨fun q => ?_, fun q => ?_⟩
  · rcases q with q | q <;> rw [c1] at q <;> cases q
  · rcases q with q | q <;> rw [c2] at q <;> cases q
theorem own_half : Dy (4602678819172646912 : UInt64) 2 2 := by have q := own_c4602678819172646912.up 1; exact q
theorem own_up {v f x : UInt64} {n k s : Int} (V : Dy v n 2) (hn : 1 ≤ n ∧ n ≤ 3) (F : Dy f (3 * k) 0) (hk : 0 ≤ k ∧ k ≤ 1023) (S : Dy x s 0) (hs : 0 ≤ s ∧ s ≤ 20000) :
    NoNaN64 (FP.dsub (4607182418800017408 : UInt64) v) ∧ NoNaN64 (FP.ddiv f (FP.dsub (4607182418800017408 : UInt64) v)) ∧ NoNaN64 (FP.dadd x (FP.ddiv f (FP.dsub (4607182418800017408 : UInt64) v))) ∧ Dy (FP.dadd x (FP.ddiv f (FP.dsub (4607182418800017408 : UInt64) v))) (s + 12 * k / (4 - n)) 0 := by
  have e2 : ((2 ^ 2 : Nat) : Int) = 4 := by decide
  have D1 := (own_c4607182418800017408.up 2).sub V (by rw [e2]; omega) (by omega)
  rw [e2, Int.one_mul] at D1
  have b : 12 * k / (4 - n) * (4 - n) = 12 * k ∧ 0 ≤ 12 * k / (4 - n) ∧ 12 * k / (4 - n) ≤ 12276 := by
    have : n = 1 ∨ n = 2 ∨ n = 3 := by omega
    rcases this with rfl | rfl | rfl <;> omega
  have D2 : Dy (FP.ddiv f (FP.dsub (4607182418800017408 : UInt64) v)) (12 * k / (4 - n)) 0 := F.div D1 (by omega) (by rw [show ((2 ^ (0 + 2 + 0) : Nat) : Int) = 4 from rfl, show ((2 ^ 0 : Nat) : Int) = 1 from rfl, b.1]; omega) (by omega) (by omega)
  have D3 := S.add D2 (by omega) (by omega)
  exact ⟨D1.nn, D2.nn, D3.nn, D3⟩
theorem own_dn {v f x : UInt64} {n k s : Int} (V : Dy v n 2) (hn : 1 ≤ n ∧ n ≤ 3) (F : Dy f (3 * k) 0) (hk : 0 ≤ k ∧ k ≤ 1023) (S : Dy x s 0) (hs : 0 ≤ s ∧ s ≤ 20000) :
    NoNaN64 (FP.ddiv f v) ∧ NoNaN64 (FP.dadd x (FP.ddiv f v)) ∧ Dy (FP.dadd x (FP.ddiv f v)) (s + 12 * k / n) 0 := by
  have b : 12 * k / n * n = 12 * k ∧ 0 ≤ 12 * k / n ∧ 12 * k / n ≤ 12276 := by
    have : n = 1 ∨ n = 2 ∨ n = 3 := by omega
    rcases this with rfl | rfl | rfl <;> omega
  have D2 : Dy (FP.ddiv f v) (12 * k / n) 0 := F.div V (by omega) (by rw [show ((2 ^ (2 + 0) : Nat) : Int) = 4 from rfl, show ((2 ^ 0 : Nat) : Int) = 1 from rfl, b.1]; omega) (by omega) (by omega)
  have D3 := S.add D2 (by omega) (by omega)
  exact ⟨D2.nn, D3.nn, D3⟩
theorem own_dq {n k : Int} (hn : 1 ≤ n ∧ n ≤ 3) (hk : 0 ≤ k ∧ k ≤ 1023) : 0 ≤ 12 * k / n ∧ 12 * k / n ≤ 12276 := by
  have : n = 1 ∨ n = 2 ∨ n = 3 := by omega
  rcases this with rfl | rfl | rfl <;> omega
/-- the mean of no falls, of one, of two, in halves -/
theorem own_f0 {e : UInt64} : Dy (if 0 < (0 : Int32) then (FP.ddiv e (FP.i2d (0 : Int32))) else (4607182418800017408 : UInt64)) 2 1 := by
  rw [if_neg (by decide)]; exact own_c4607182418800017408.up 1
theorem own_f1 {e : UInt64} {s : Int} (S : Dy e s 0) (hs : 0 ≤ s ∧ s ≤ 30000) : Dy (FP.ddiv e (FP.i2d (1 : Int32))) (2 * s) 1 :=
  S.div (dy_i2d 1) (by decide) (by rw [show (1 : Int32).toInt = 1 from rfl, show ((2 ^ (0 + 1) : Nat) : Int) = 2 from rfl, show ((2 ^ 0 : Nat) : Int) = 1 from rfl]; omega) (by omega) (by omega)
theorem own_f2 {e : UInt64} {s : Int} (S : Dy e s 0) (hs : 0 ≤ s ∧ s ≤ 30000) : Dy (FP.ddiv e (FP.i2d (2 : Int32))) s 1 :=
  S.div (dy_i2d 2) (by decide) (by rw [show (2 : Int32).toInt = 2 from rfl, show ((2 ^ (0 + 1) : Nat) : Int) = 2 from rfl, show ((2 ^ 0 : Nat) : Int) = 1 from rfl]; omega) (by omega) (by omega)
theorem own_ifp {p : Prop} [Decidable p] (h : p) {x y : UInt64} {n : Int} {k : Nat} (D : Dy x n k) : Dy (if p then x else y) n k := by rw [if_pos h]; exact D
/-- the two sides that leansIn compares -/
theorem own_sides {U W p : UInt64} {a b r : Int} (A : Dy U a 1) (B : Dy W b 1) (ha : 0 ≤ a ∧ a ≤ 60000) (hb : 0 ≤ b ∧ b ≤ 60000) (P : Dy p r 3) (hr : 0 ≤ r ∧ r ≤ 8) :
    NoNaN64 (FP.dsub (4607182418800017408 : UInt64) p) ∧ NoNaN64 (FP.dmul U (FP.dsub (4607182418800017408 : UInt64) p)) ∧ NoNaN64 (FP.dmul W p) ∧ (dle (FP.dmul U (FP.dsub (4607182418800017408 : UInt64) p)) (FP.dmul W p) ↔ a * (8 - r) ≤ b * r) := by
  have e3 : ((2 ^ 3 : Nat) : Int) = 8 := by decide
  have D1 := (own_c4607182418800017408.up 3).sub P (by rw [e3]; omega) (by omega)
  rw [e3, Int.one_mul] at D1
  have m1 := own_mb (a := a) (b := 8 - r) (A := 60000) (B := 8) (by omega) (by omega)
  have m2 := own_mb (a := b) (b := r) (A := 60000) (B := 8) (by omega) (by omega)
  have M1 := A.mul D1 (by omega) (by omega)
  have M2 := B.mul P (by omega) (by omega)
  refine ⟨D1.nn, M1.nn, M2.nn, ?_⟩
  have cc := Dy.cmp (k := 4) M1 M2
  unfold dle
  rw [cc, Option.some.injEq, Option.some.injEq, FP.Core.compare_lt_iff, FP.Core.compare_eq_iff]
  omega
/-- 12 k / d in longs -/
theorem own_tw {k : Int32} {d : Int64} {m : Int} (hd : d.toInt = m) (hm : 1 ≤ m ∧ m ≤ 3) (hk : 0 ≤ k.toInt ∧ k.toInt ≤ 1023) : (((12 : Int64) * (k.toInt64)) / d).toInt = 12 * k.toInt / m := by
  have e12 : (12 : Int64).toInt = 12 := by decide
  have e : ((12 : Int64) * (k.toInt64)).toInt = 12 * k.toInt := by rw [ow_lmul (by rw [Int32.toInt_toInt64, e12]; omega), Int32.toInt_toInt64, e12]
  have q := (c_ldiv ((12 : Int64) * (k.toInt64)) d m hd (fun h => by rw [h] at hd; have h_ : (-1 : Int64).toInt = -1 := (by decide); omega)).1 (by omega)
  rw [q, e]
theorem own_4q {q : Int32} (h : 1 ≤ q.toInt ∧ q.toInt ≤ 3) : (((4 : Int32) - q).toInt64).toInt = 4 - q.toInt := by
  rw [Int32.toInt_toInt64]
  have a := c_isub 4 q
  have e : (4 : Int32).toInt = 4 := by decide
  have b := rng32 (4 - q)
  rw [e] at a
  omega
theorem own_8r {q : Int32} (h : 0 ≤ q.toInt ∧ q.toInt ≤ 8) : (((8 : Int32) - q).toInt64).toInt = 8 - q.toInt := by
  rw [Int32.toInt_toInt64]
  have a := c_isub 8 q
  have e : (8 : Int32).toInt = 8 := by decide
  have b := rng32 (8 - q)
  rw [e] at a
  omega
theorem own_4qd {q : Int32} (h : 1 ≤ q.toInt ∧ q.toInt ≤ 3) : 1 ≤ 4 - q.toInt ∧ 4 - q.toInt ≤ 3 := by omega
theorem own_e0 : (0 : Int64).toInt = 0 := by decide
theorem own_e2 : (2 : Int64).toInt = 2 := by decide
theorem own_ls {x y z : Int64} {a b : Int} (q : x + y = z) (ex : x.toInt = a) (ey : y.toInt = b) (ha : 0 ≤ a ∧ a ≤ 30000) (hb : 0 ≤ b ∧ b ≤ 12276) : z.toInt = a + b := by
  rw [← q, ow_ladd (by rw [ex, ey]; omega), ex, ey]
theorem own_l2 {x z : Int64} {a : Int} (q : (2 : Int64) * x = z) (ex : x.toInt = a) (ha : 0 ≤ a ∧ a ≤ 30000) : z.toInt = 2 * a := by
  rw [← q, ow_lmul (by rw [ex, own_e2]; omega), ex, own_e2]
theorem own_w3 {a : Int} (h : 0 ≤ a ∧ a ≤ 20000) : 0 ≤ a ∧ a ≤ 30000 := by omega
theorem own_nzL {x : Int64} {m : Int} (h : x.toInt = m) (hm : 1 ≤ m) : x ≠ 0 := fun q => by rw [q] at h; have h_ : (0 : Int64).toInt = 0 := (by decide); omega
theorem own_fin {A B : UInt64} {up2 dn2 x y : Int64} {r w q : Int32} {a b : Int} (hA : dle A B ↔ a * (8 - q.toInt) ≤ b * q.toInt) (hr : 0 ≤ q.toInt ∧ q.toInt ≤ 8) (ha : 0 ≤ a ∧ a ≤ 60000) (hb : 0 ≤ b ∧ b ≤ 60000) (eu : up2.toInt = a) (ed : dn2.toInt = b)
    (qr : (if dle A B then (1 : Int32) else (0 : Int32)) = r) (qx : up2 * (((8 : Int32) - q).toInt64) = x) (qy : dn2 * (q.toInt64) = y) (qw : (if y < x then (0 : Int32) else (1 : Int32)) = w) : r = w := by
  have m1 := own_mb (a := a) (b := 8 - q.toInt) (A := 60000) (B := 8) (by omega) (by omega)
  have m2 := own_mb (a := b) (b := q.toInt) (A := 60000) (B := 8) (by omega) (by omega)
  have ex : x.toInt = a * (8 - q.toInt) := by rw [← qx, ow_lmul (by rw [own_8r hr, eu]; omega), own_8r hr, eu]
  have ey : y.toInt = b * q.toInt := by rw [← qy, ow_lmul (by rw [Int32.toInt_toInt64, ed]; omega), Int32.toInt_toInt64, ed]
  subst qr qw
  by_cases h : y < x
  · rw [if_pos h, if_neg (fun g => by have g := hA.mp g; rw [Int64.lt_iff_toInt_lt, ex, ey] at h; omega)]
  · rw [if_neg h, if_pos (hA.mpr (by rw [Int64.lt_iff_toInt_lt, ex, ey] at h; omega))]

theorem ef1 (m : MethodId) (x0 : Addr) (x2 : Int64) : entryFrame m #[(.ref x0), (.int (2 : Int32)), (.long x2)] 4 = mkF m 0 #[.val (.ref x0), .val (.int (2 : Int32)), .val (.long x2), .second] [] := by first | (simp [entryFrame, mkF, argsToLocals, Value.category]; done) | rfl
def Q1 (Z : State) (o0 : Addr) (p2 : Int64) (count_o0 : Int32) (least_o0 : Int64) (u_downFalls_o0 : Value) (u_downCounts_o0 : Value) (u_upFalls_o0 : Value) (u_upCounts_o0 : Value) (u_branchable_o0 : Value) (h0 : Heap) (n0 : Nat) (v : Option Value) (h : Heap) (L : List Loc) : Prop := ∃ b4 b6 b8 b10 : Addr, v = none ∧ Fr n0 L ∧ Keep h0 h [o0] ∧ h0.size ≤ b4 ∧ h0.size ≤ b6 ∧ h0.size ≤ b8 ∧ h0.size ≤ b10 ∧ b4 ≠ b6 ∧ b4 ≠ b8 ∧ b4 ≠ b10 ∧ b6 ≠ b8 ∧ b6 ≠ b10 ∧ b8 ≠ b10 ∧ Exa Z h o0 "com/example/bidfold/bidfold/Branching" ∧ Fld Z h o0 "com/example/bidfold/bidfold/Branching" "downFalls" "[D" (.ref b4) ∧ Fld Z h o0 "com/example/bidfold/bidfold/Branching" "downCounts" "[I" (.ref b6) ∧ Fld Z h o0 "com/example/bidfold/bidfold/Branching" "upFalls" "[D" (.ref b8) ∧ Fld Z h o0 "com/example/bidfold/bidfold/Branching" "upCounts" "[I" (.ref b10) ∧ Exa Z h b4 "[D" ∧ Ary tr Z h b4 .double [(.double (0 : UInt64)), (.double (0 : UInt64))] ∧ Exa Z h b6 "[I" ∧ Ary tr Z h b6 .int [(.int (0 : Int32)), (.int (0 : Int32))] ∧ Exa Z h b8 "[D" ∧ Ary tr Z h b8 .double [(.double (0 : UInt64)), (.double (0 : UInt64))] ∧ Exa Z h b10 "[I" ∧ Ary tr Z h b10 .int [(.int (0 : Int32)), (.int (0 : Int32))]
set_option maxRecDepth 65536 in
set_option maxHeartbeats 40000000 in
theorem rm1 (l : Launch) (Z : State) (a0 : Array Value) (hw : ∀ d ∈ tables_1, d.before a0 Z = true) (ws : List Jvm.Cond) (o0 : Addr) (p2 : Int64) (count_o0 : Int32) (least_o0 : Int64) (u_downFalls_o0 : Value) (u_downCounts_o0 : Value) (u_upFalls_o0 : Value) (u_upCounts_o0 : Value) (u_branchable_o0 : Value) (h0 : Heap) (n0 : Nat) (Z0 : n0 ≤ h0.size) (F_o0_count : Fld Z h0 o0 "com/example/bidfold/bidfold/Branching" "count" "I" (.int count_o0)) (F_o0_least : Fld Z h0 o0 "com/example/bidfold/bidfold/Branching" "least" "J" (.long least_o0)) (F_o0_downFalls : Fld Z h0 o0 "com/example/bidfold/bidfold/Branching" "downFalls" "[D" u_downFalls_o0) (F_o0_downCounts : Fld Z h0 o0 "com/example/bidfold/bidfold/Branching" "downCounts" "[I" u_downCounts_o0) (F_o0_upFalls : Fld Z h0 o0 "com/example/bidfold/bidfold/Branching" "upFalls" "[D" u_upFalls_o0) (F_o0_upCounts : Fld Z h0 o0 "com/example/bidfold/bidfold/Branching" "upCounts" "[I" u_upCounts_o0) (F_o0_branchable : Fld Z h0 o0 "com/example/bidfold/bidfold/Branching" "branchable" "[I" u_branchable_o0) (E_o0 : Exa Z h0 o0 "com/example/bidfold/bidfold/Branching") (g_o0 : n0 ≤ o0) :
    MetFree l (⟨"com/example/bidfold/bidfold/Branching", "<init>", "(IJ)V"⟩ : MethodName) (head1 (Jvm.Cond.code (⟨"com/example/bidfold/bidfold/Branching", "<init>", "(IJ)V"⟩ : MethodName) prog_13_method_1_code 4 none :: ws) ({ frames := 1, cells := 5, slots := 10, locals := 12 } : Room)) (fun a U => a = #[(.ref o0), (.int (2 : Int32)), (.long p2)] ∧ Z.Warmed39 U.vm ∧ U.heap = h0) (fun _ _ _ _ _ => True) (fun _ U o U' => ∃ v L, o = .returned v ∧ Q1 Z o0 p2 count_o0 least_o0 u_downFalls_o0 u_downCounts_o0 u_upFalls_o0 u_upCounts_o0 u_branchable_o0 h0 n0 v U'.heap L ∧ FrameEnd U o U' L ({ frames := 1, cells := 5, slots := 10, locals := 12 } : Room).cells ({ frames := 1, cells := 5, slots := 10, locals := 12 } : Room).slots) := by
  refine MetFree.of_bodySF (plainFor_of_name pn_com_example_bidfold_bidfold_Branching) hisR ?_
  intro p e s m args below meth c s₁ Bd hml0 hP hK
  obtain ⟨rfl, hZ, hhp⟩ := hP
  have hx := Bd.exec
  have hby := Bd.bytes
  have hml : c.maxLocals = 4 := hml0
  have hown : s.vm.findClass "com/example/bidfold/bidfold/Branching" = some m.cls := findClass_of_methodNamed Bd.named
  have hnm := (name_of_methodNamed Bd.named Bd.method).1
  have X0 : Stand p l e ({ frames := 1, cells := 5, slots := 10, locals := 12 } : Room) s m #[(.ref o0), (.int (2 : Int32)), (.long p2)] below meth c s₁ [] 0 0 := Stand.of_body Bd
  have eH0 : s₁.heap = h0 := by rw [← hhp, Bd.state]; rfl
  have N0 := Fr.nil n0
  have K0 := Keep.refl h0 [o0]
  show Gt p.tables e below (fun o U' => ∃ v L, o = .returned v ∧ Q1 Z o0 p2 count_o0 least_o0 u_downFalls_o0 u_downCounts_o0 u_upFalls_o0 u_upCounts_o0 u_branchable_o0 h0 n0 v U'.heap L ∧ FrameEnd s o U' L ({ frames := 1, cells := 5, slots := 10, locals := 12 } : Room).cells ({ frames := 1, cells := 5, slots := 10, locals := 12 } : Room).slots) _
  refine own_cast (ef1 m o0 p2) ?_
  refine own_aloadN X0 hx hby rfl rfl d1_0 (pc' := 1) rfl ?_
  refine own_initO X0 hx hby hZ hown (hw _ (List.mem_of_getElem? (i := 6) rfl)) (hw _ (List.mem_of_getElem? (i := 7) rfl)) (hw _ (List.mem_of_getElem? (i := 8) rfl)) eH0 (by rw [hml]; rfl) d1_1 (pc' := 4) rfl (by decide) (W := 0) (Nat.le_of_eq rfl) (by decide) (fun T1 X1 eH1 => ?_)
  refine own_aloadN X1 hx hby rfl rfl d1_4 (pc' := 5) rfl ?_
  refine own_iloadN X1 hx hby rfl d1_5 (pc' := 6) rfl ?_
  refine own_putF X1 hx hby hZ hown (host := "") (Or.inl (hw _ (List.mem_of_getElem? (i := 9) rfl))) Via.refl eH1 F_o0_count E_o0 (Or.inr ⟨(hw _ (List.mem_of_getElem? (i := 10) rfl)), rfl, hnm⟩) (hw _ (List.mem_of_getElem? (i := 1) rfl)) (ty := .int) (by decide) rfl rfl d1_6 (pc' := 9) rfl (fun T2 h2 X2 eH2 W2 => ?_)
  replace E_o0 := E_o0.wr W2
  replace F_o0_count := F_o0_count.same W2
  replace F_o0_least := F_o0_least.other W2 (Or.inr (slot_ne (Or.inr (hw _ (List.mem_of_getElem? (i := 12) rfl))) (Or.inr (hw _ (List.mem_of_getElem? (i := 10) rfl))) (by decide) (t := .long) (t' := .int) (by decide) (by decide)))
  replace F_o0_downFalls := F_o0_downFalls.other W2 (Or.inr (slot_ne (Or.inr (hw _ (List.mem_of_getElem? (i := 15) rfl))) (Or.inr (hw _ (List.mem_of_getElem? (i := 10) rfl))) (by decide) (t := (.array .double)) (t' := .int) (by decide) (by decide)))
  replace F_o0_downCounts := F_o0_downCounts.other W2 (Or.inr (slot_ne (Or.inr (hw _ (List.mem_of_getElem? (i := 18) rfl))) (Or.inr (hw _ (List.mem_of_getElem? (i := 10) rfl))) (by decide) (t := (.array .int)) (t' := .int) (by decide) (by decide)))
  replace F_o0_upFalls := F_o0_upFalls.other W2 (Or.inr (slot_ne (Or.inr (hw _ (List.mem_of_getElem? (i := 20) rfl))) (Or.inr (hw _ (List.mem_of_getElem? (i := 10) rfl))) (by decide) (t := (.array .double)) (t' := .int) (by decide) (by decide)))
  replace F_o0_upCounts := F_o0_upCounts.other W2 (Or.inr (slot_ne (Or.inr (hw _ (List.mem_of_getElem? (i := 22) rfl))) (Or.inr (hw _ (List.mem_of_getElem? (i := 10) rfl))) (by decide) (t := (.array .int)) (t' := .int) (by decide) (by decide)))
  replace F_o0_branchable := F_o0_branchable.other W2 (Or.inr (slot_ne (Or.inr (hw _ (List.mem_of_getElem? (i := 24) rfl))) (Or.inr (hw _ (List.mem_of_getElem? (i := 10) rfl))) (by decide) (t := (.array .int)) (t' := .int) (by decide) (by decide)))
  have N2 := Fr.snoc X2 N0 g_o0
  replace K0 := K0.wr W2 (Or.inl (by simp))
  replace Z0 := Nat.le_trans Z0 (Nat.le_of_eq W2.size.symm)
  refine own_aloadN X2 hx hby rfl rfl d1_9 (pc' := 10) rfl ?_
  refine own_lloadN X2 hx hby rfl d1_10 (pc' := 11) rfl ?_
  refine own_putF X2 hx hby hZ hown (host := "") (Or.inl (hw _ (List.mem_of_getElem? (i := 11) rfl))) Via.refl eH2 F_o0_least E_o0 (Or.inr ⟨(hw _ (List.mem_of_getElem? (i := 12) rfl)), rfl, hnm⟩) (hw _ (List.mem_of_getElem? (i := 1) rfl)) (ty := .long) (by decide) rfl rfl d1_11 (pc' := 14) rfl (fun T3 h3 X3 eH3 W3 => ?_)
  replace E_o0 := E_o0.wr W3
  replace F_o0_count := F_o0_count.other W3 (Or.inr (slot_ne (Or.inr (hw _ (List.mem_of_getElem? (i := 10) rfl))) (Or.inr (hw _ (List.mem_of_getElem? (i := 12) rfl))) (by decide) (t := .int) (t' := .long) (by decide) (by decide)))
  replace F_o0_least := F_o0_least.same W3
  replace F_o0_downFalls := F_o0_downFalls.other W3 (Or.inr (slot_ne (Or.inr (hw _ (List.mem_of_getElem? (i := 15) rfl))) (Or.inr (hw _ (List.mem_of_getElem? (i := 12) rfl))) (by decide) (t := (.array .double)) (t' := .long) (by decide) (by decide)))
  replace F_o0_downCounts := F_o0_downCounts.other W3 (Or.inr (slot_ne (Or.inr (hw _ (List.mem_of_getElem? (i := 18) rfl))) (Or.inr (hw _ (List.mem_of_getElem? (i := 12) rfl))) (by decide) (t := (.array .int)) (t' := .long) (by decide) (by decide)))
  replace F_o0_upFalls := F_o0_upFalls.other W3 (Or.inr (slot_ne (Or.inr (hw _ (List.mem_of_getElem? (i := 20) rfl))) (Or.inr (hw _ (List.mem_of_getElem? (i := 12) rfl))) (by decide) (t := (.array .double)) (t' := .long) (by decide) (by decide)))
  replace F_o0_upCounts := F_o0_upCounts.other W3 (Or.inr (slot_ne (Or.inr (hw _ (List.mem_of_getElem? (i := 22) rfl))) (Or.inr (hw _ (List.mem_of_getElem? (i := 12) rfl))) (by decide) (t := (.array .int)) (t' := .long) (by decide) (by decide)))
  replace F_o0_branchable := F_o0_branchable.other W3 (Or.inr (slot_ne (Or.inr (hw _ (List.mem_of_getElem? (i := 24) rfl))) (Or.inr (hw _ (List.mem_of_getElem? (i := 12) rfl))) (by decide) (t := (.array .int)) (t' := .long) (by decide) (by decide)))
  have N3 := Fr.snoc X3 N2 g_o0
  replace K0 := K0.wr W3 (Or.inl (by simp))
  replace Z0 := Nat.le_trans Z0 (Nat.le_of_eq W3.size.symm)
  refine own_aloadN X3 hx hby rfl rfl d1_14 (pc' := 15) rfl ?_
  refine own_iloadN X3 hx hby rfl d1_15 (pc' := 16) rfl ?_
  refine own_newP X3 hx hby hZ (hw _ (List.mem_of_getElem? (i := 13) rfl)) eH3 d1_16 (pc' := 18) rfl (by decide) (N := 2) (by decide) (cap := 2) (by decide) (by decide) (by decide) (by decide) (ad := "[D") (by decide) (fun T4 h4 b4 X4 eH4 E4 g4 E_b4 V_b4 => ?_)
  have g_b4 : n0 ≤ b4 := g4 ▸ Z0
  have sz_b4 : h0.size ≤ b4 := g4 ▸ K0.1
  have ne_o0_b4 : o0 ≠ b4 := Nat.ne_of_lt (g4 ▸ E_o0.lt)
  replace E_o0 := E_o0.ext E4
  replace F_o0_count := F_o0_count.ext E4
  replace F_o0_least := F_o0_least.ext E4
  replace F_o0_downFalls := F_o0_downFalls.ext E4
  replace F_o0_downCounts := F_o0_downCounts.ext E4
  replace F_o0_upFalls := F_o0_upFalls.ext E4
  replace F_o0_upCounts := F_o0_upCounts.ext E4
  replace F_o0_branchable := F_o0_branchable.ext E4
  replace K0 := K0.ext E4
  replace Z0 := Nat.le_trans Z0 E4.1
  have V_b4 : Ary tr Z h4 b4 .double [(.double (0 : UInt64)), (.double (0 : UInt64))] := V_b4
  refine own_putF X4 hx hby hZ hown (host := "") (Or.inl (hw _ (List.mem_of_getElem? (i := 14) rfl))) Via.refl eH4 F_o0_downFalls E_o0 (Or.inr ⟨(hw _ (List.mem_of_getElem? (i := 15) rfl)), rfl, hnm⟩) (hw _ (List.mem_of_getElem? (i := 1) rfl)) (ty := (.array .double)) (by decide) rfl rfl d1_18 (pc' := 21) rfl (fun T5 h5 X5 eH5 W5 => ?_)
  replace E_o0 := E_o0.wr W5
  replace F_o0_count := F_o0_count.other W5 (Or.inr (slot_ne (Or.inr (hw _ (List.mem_of_getElem? (i := 10) rfl))) (Or.inr (hw _ (List.mem_of_getElem? (i := 15) rfl))) (by decide) (t := .int) (t' := (.array .double)) (by decide) (by decide)))
  replace F_o0_least := F_o0_least.other W5 (Or.inr (slot_ne (Or.inr (hw _ (List.mem_of_getElem? (i := 12) rfl))) (Or.inr (hw _ (List.mem_of_getElem? (i := 15) rfl))) (by decide) (t := .long) (t' := (.array .double)) (by decide) (by decide)))
  replace F_o0_downFalls := F_o0_downFalls.same W5
  replace F_o0_downCounts := F_o0_downCounts.other W5 (Or.inr (slot_ne (Or.inr (hw _ (List.mem_of_getElem? (i := 18) rfl))) (Or.inr (hw _ (List.mem_of_getElem? (i := 15) rfl))) (by decide) (t := (.array .int)) (t' := (.array .double)) (by decide) (by decide)))
  replace F_o0_upFalls := F_o0_upFalls.other W5 (Or.inr (slot_ne (Or.inr (hw _ (List.mem_of_getElem? (i := 20) rfl))) (Or.inr (hw _ (List.mem_of_getElem? (i := 15) rfl))) (by decide) (t := (.array .double)) (t' := (.array .double)) (by decide) (by decide)))
  replace F_o0_upCounts := F_o0_upCounts.other W5 (Or.inr (slot_ne (Or.inr (hw _ (List.mem_of_getElem? (i := 22) rfl))) (Or.inr (hw _ (List.mem_of_getElem? (i := 15) rfl))) (by decide) (t := (.array .int)) (t' := (.array .double)) (by decide) (by decide)))
  replace F_o0_branchable := F_o0_branchable.other W5 (Or.inr (slot_ne (Or.inr (hw _ (List.mem_of_getElem? (i := 24) rfl))) (Or.inr (hw _ (List.mem_of_getElem? (i := 15) rfl))) (by decide) (t := (.array .int)) (t' := (.array .double)) (by decide) (by decide)))
  replace E_b4 := E_b4.wr W5
  replace V_b4 := V_b4.other W5 (Ne.symm ne_o0_b4)
  have N5 := Fr.snoc X5 N3 g_o0
  replace K0 := K0.wr W5 (Or.inl (by simp))
  replace Z0 := Nat.le_trans Z0 (Nat.le_of_eq W5.size.symm)
  refine own_aloadN X5 hx hby rfl rfl d1_21 (pc' := 22) rfl ?_
  refine own_iloadN X5 hx hby rfl d1_22 (pc' := 23) rfl ?_
  refine own_newP X5 hx hby hZ (hw _ (List.mem_of_getElem? (i := 16) rfl)) eH5 d1_23 (pc' := 25) rfl (by decide) (N := 2) (by decide) (cap := 2) (by decide) (by decide) (by decide) (by decide) (ad := "[I") (by decide) (fun T6 h6 b6 X6 eH6 E6 g6 E_b6 V_b6 => ?_)
  have g_b6 : n0 ≤ b6 := g6 ▸ Z0
  have sz_b6 : h0.size ≤ b6 := g6 ▸ K0.1
  have ne_o0_b6 : o0 ≠ b6 := Nat.ne_of_lt (g6 ▸ E_o0.lt)
  have ne_b4_b6 : b4 ≠ b6 := Nat.ne_of_lt (g6 ▸ E_b4.lt)
  replace E_o0 := E_o0.ext E6
  replace F_o0_count := F_o0_count.ext E6
  replace F_o0_least := F_o0_least.ext E6
  replace F_o0_downFalls := F_o0_downFalls.ext E6
  replace F_o0_downCounts := F_o0_downCounts.ext E6
  replace F_o0_upFalls := F_o0_upFalls.ext E6
  replace F_o0_upCounts := F_o0_upCounts.ext E6
  replace F_o0_branchable := F_o0_branchable.ext E6
  replace E_b4 := E_b4.ext E6
  replace V_b4 := V_b4.ext E6
  replace K0 := K0.ext E6
  replace Z0 := Nat.le_trans Z0 E6.1
  have V_b6 : Ary tr Z h6 b6 .int [(.int (0 : Int32)), (.int (0 : Int32))] := V_b6
  refine own_putF X6 hx hby hZ hown (host := "") (Or.inl (hw _ (List.mem_of_getElem? (i := 17) rfl))) Via.refl eH6 F_o0_downCounts E_o0 (Or.inr ⟨(hw _ (List.mem_of_getElem? (i := 18) rfl)), rfl, hnm⟩) (hw _ (List.mem_of_getElem? (i := 1) rfl)) (ty := (.array .int)) (by decide) rfl rfl d1_25 (pc' := 28) rfl (fun T7 h7 X7 eH7 W7 => ?_)
  replace E_o0 := E_o0.wr W7
  replace F_o0_count := F_o0_count.other W7 (Or.inr (slot_ne (Or.inr (hw _ (List.mem_of_getElem? (i := 10) rfl))) (Or.inr (hw _ (List.mem_of_getElem? (i := 18) rfl))) (by decide) (t := .int) (t' := (.array .int)) (by decide) (by decide)))
  replace F_o0_least := F_o0_least.other W7 (Or.inr (slot_ne (Or.inr (hw _ (List.mem_of_getElem? (i := 12) rfl))) (Or.inr (hw _ (List.mem_of_getElem? (i := 18) rfl))) (by decide) (t := .long) (t' := (.array .int)) (by decide) (by decide)))
  replace F_o0_downFalls := F_o0_downFalls.other W7 (Or.inr (slot_ne (Or.inr (hw _ (List.mem_of_getElem? (i := 15) rfl))) (Or.inr (hw _ (List.mem_of_getElem? (i := 18) rfl))) (by decide) (t := (.array .double)) (t' := (.array .int)) (by decide) (by decide)))
  replace F_o0_downCounts := F_o0_downCounts.same W7
  replace F_o0_upFalls := F_o0_upFalls.other W7 (Or.inr (slot_ne (Or.inr (hw _ (List.mem_of_getElem? (i := 20) rfl))) (Or.inr (hw _ (List.mem_of_getElem? (i := 18) rfl))) (by decide) (t := (.array .double)) (t' := (.array .int)) (by decide) (by decide)))
  replace F_o0_upCounts := F_o0_upCounts.other W7 (Or.inr (slot_ne (Or.inr (hw _ (List.mem_of_getElem? (i := 22) rfl))) (Or.inr (hw _ (List.mem_of_getElem? (i := 18) rfl))) (by decide) (t := (.array .int)) (t' := (.array .int)) (by decide) (by decide)))
  replace F_o0_branchable := F_o0_branchable.other W7 (Or.inr (slot_ne (Or.inr (hw _ (List.mem_of_getElem? (i := 24) rfl))) (Or.inr (hw _ (List.mem_of_getElem? (i := 18) rfl))) (by decide) (t := (.array .int)) (t' := (.array .int)) (by decide) (by decide)))
  replace E_b4 := E_b4.wr W7
  replace V_b4 := V_b4.other W7 (Ne.symm ne_o0_b4)
  replace E_b6 := E_b6.wr W7
  replace V_b6 := V_b6.other W7 (Ne.symm ne_o0_b6)
  have N7 := Fr.snoc X7 N5 g_o0
  replace K0 := K0.wr W7 (Or.inl (by simp))
  replace Z0 := Nat.le_trans Z0 (Nat.le_of_eq W7.size.symm)
  refine own_aloadN X7 hx hby rfl rfl d1_28 (pc' := 29) rfl ?_
  refine own_iloadN X7 hx hby rfl d1_29 (pc' := 30) rfl ?_
  refine own_newP X7 hx hby hZ (hw _ (List.mem_of_getElem? (i := 13) rfl)) eH7 d1_30 (pc' := 32) rfl (by decide) (N := 2) (by decide) (cap := 2) (by decide) (by decide) (by decide) (by decide) (ad := "[D") (by decide) (fun T8 h8 b8 X8 eH8 E8 g8 E_b8 V_b8 => ?_)
  have g_b8 : n0 ≤ b8 := g8 ▸ Z0
  have sz_b8 : h0.size ≤ b8 := g8 ▸ K0.1
  have ne_o0_b8 : o0 ≠ b8 := Nat.ne_of_lt (g8 ▸ E_o0.lt)
  have ne_b4_b8 : b4 ≠ b8 := Nat.ne_of_lt (g8 ▸ E_b4.lt)
  have ne_b6_b8 : b6 ≠ b8 := Nat.ne_of_lt (g8 ▸ E_b6.lt)
  replace E_o0 := E_o0.ext E8
  replace F_o0_count := F_o0_count.ext E8
  replace F_o0_least := F_o0_least.ext E8
  replace F_o0_downFalls := F_o0_downFalls.ext E8
  replace F_o0_downCounts := F_o0_downCounts.ext E8
  replace F_o0_upFalls := F_o0_upFalls.ext E8
  replace F_o0_upCounts := F_o0_upCounts.ext E8
  replace F_o0_branchable := F_o0_branchable.ext E8
  replace E_b4 := E_b4.ext E8
  replace V_b4 := V_b4.ext E8
  replace E_b6 := E_b6.ext E8
  replace V_b6 := V_b6.ext E8
  replace K0 := K0.ext E8
  replace Z0 := Nat.le_trans Z0 E8.1
  have V_b8 : Ary tr Z h8 b8 .double [(.double (0 : UInt64)), (.double (0 : UInt64))] := V_b8
  refine own_putF X8 hx hby hZ hown (host := "") (Or.inl (hw _ (List.mem_of_getElem? (i := 19) rfl))) Via.refl eH8 F_o0_upFalls E_o0 (Or.inr ⟨(hw _ (List.mem_of_getElem? (i := 20) rfl)), rfl, hnm⟩) (hw _ (List.mem_of_getElem? (i := 1) rfl)) (ty := (.array .double)) (by decide) rfl rfl d1_32 (pc' := 35) rfl (fun T9 h9 X9 eH9 W9 => ?_)
  replace E_o0 := E_o0.wr W9
  replace F_o0_count := F_o0_count.other W9 (Or.inr (slot_ne (Or.inr (hw _ (List.mem_of_getElem? (i := 10) rfl))) (Or.inr (hw _ (List.mem_of_getElem? (i := 20) rfl))) (by decide) (t := .int) (t' := (.array .double)) (by decide) (by decide)))
  replace F_o0_least := F_o0_least.other W9 (Or.inr (slot_ne (Or.inr (hw _ (List.mem_of_getElem? (i := 12) rfl))) (Or.inr (hw _ (List.mem_of_getElem? (i := 20) rfl))) (by decide) (t := .long) (t' := (.array .double)) (by decide) (by decide)))
  replace F_o0_downFalls := F_o0_downFalls.other W9 (Or.inr (slot_ne (Or.inr (hw _ (List.mem_of_getElem? (i := 15) rfl))) (Or.inr (hw _ (List.mem_of_getElem? (i := 20) rfl))) (by decide) (t := (.array .double)) (t' := (.array .double)) (by decide) (by decide)))
  replace F_o0_downCounts := F_o0_downCounts.other W9 (Or.inr (slot_ne (Or.inr (hw _ (List.mem_of_getElem? (i := 18) rfl))) (Or.inr (hw _ (List.mem_of_getElem? (i := 20) rfl))) (by decide) (t := (.array .int)) (t' := (.array .double)) (by decide) (by decide)))
  replace F_o0_upFalls := F_o0_upFalls.same W9
  replace F_o0_upCounts := F_o0_upCounts.other W9 (Or.inr (slot_ne (Or.inr (hw _ (List.mem_of_getElem? (i := 22) rfl))) (Or.inr (hw _ (List.mem_of_getElem? (i := 20) rfl))) (by decide) (t := (.array .int)) (t' := (.array .double)) (by decide) (by decide)))
  replace F_o0_branchable := F_o0_branchable.other W9 (Or.inr (slot_ne (Or.inr (hw _ (List.mem_of_getElem? (i := 24) rfl))) (Or.inr (hw _ (List.mem_of_getElem? (i := 20) rfl))) (by decide) (t := (.array .int)) (t' := (.array .double)) (by decide) (by decide)))
  replace E_b4 := E_b4.wr W9
  replace V_b4 := V_b4.other W9 (Ne.symm ne_o0_b4)
  replace E_b6 := E_b6.wr W9
  replace V_b6 := V_b6.other W9 (Ne.symm ne_o0_b6)
  replace E_b8 := E_b8.wr W9
  replace V_b8 := V_b8.other W9 (Ne.symm ne_o0_b8)
  have N9 := Fr.snoc X9 N7 g_o0
  replace K0 := K0.wr W9 (Or.inl (by simp))
  replace Z0 := Nat.le_trans Z0 (Nat.le_of_eq W9.size.symm)
  refine own_aloadN X9 hx hby rfl rfl d1_35 (pc' := 36) rfl ?_
  refine own_iloadN X9 hx hby rfl d1_36 (pc' := 37) rfl ?_
  refine own_newP X9 hx hby hZ (hw _ (List.mem_of_getElem? (i := 16) rfl)) eH9 d1_37 (pc' := 39) rfl (by decide) (N := 2) (by decide) (cap := 2) (by decide) (by decide) (by decide) (by decide) (ad := "[I") (by decide) (fun T10 h10 b10 X10 eH10 E10 g10 E_b10 V_b10 => ?_)
  have g_b10 : n0 ≤ b10 := g10 ▸ Z0
  have sz_b10 : h0.size ≤ b10 := g10 ▸ K0.1
  have ne_o0_b10 : o0 ≠ b10 := Nat.ne_of_lt (g10 ▸ E_o0.lt)
  have ne_b4_b10 : b4 ≠ b10 := Nat.ne_of_lt (g10 ▸ E_b4.lt)
  have ne_b6_b10 : b6 ≠ b10 := Nat.ne_of_lt (g10 ▸ E_b6.lt)
  have ne_b8_b10 : b8 ≠ b10 := Nat.ne_of_lt (g10 ▸ E_b8.lt)
  replace E_o0 := E_o0.ext E10
  replace F_o0_count := F_o0_count.ext E10
  replace F_o0_least := F_o0_least.ext E10
  replace F_o0_downFalls := F_o0_downFalls.ext E10
  replace F_o0_downCounts := F_o0_downCounts.ext E10
  replace F_o0_upFalls := F_o0_upFalls.ext E10
  replace F_o0_upCounts := F_o0_upCounts.ext E10
  replace F_o0_branchable := F_o0_branchable.ext E10
  replace E_b4 := E_b4.ext E10
  replace V_b4 := V_b4.ext E10
  replace E_b6 := E_b6.ext E10
  replace V_b6 := V_b6.ext E10
  replace E_b8 := E_b8.ext E10
  replace V_b8 := V_b8.ext E10
  replace K0 := K0.ext E10
  replace Z0 := Nat.le_trans Z0 E10.1
  have V_b10 : Ary tr Z h10 b10 .int [(.int (0 : Int32)), (.int (0 : Int32))] := V_b10
  refine own_putF X10 hx hby hZ hown (host := "") (Or.inl (hw _ (List.mem_of_getElem? (i := 21) rfl))) Via.refl eH10 F_o0_upCounts E_o0 (Or.inr ⟨(hw _ (List.mem_of_getElem? (i := 22) rfl)), rfl, hnm⟩) (hw _ (List.mem_of_getElem? (i := 1) rfl)) (ty := (.array .int)) (by decide) rfl rfl d1_39 (pc' := 42) rfl (fun T11 h11 X11 eH11 W11 => ?_)
  replace E_o0 := E_o0.wr W11
  replace F_o0_count := F_o0_count.other W11 (Or.inr (slot_ne (Or.inr (hw _ (List.mem_of_getElem? (i := 10) rfl))) (Or.inr (hw _ (List.mem_of_getElem? (i := 22) rfl))) (by decide) (t := .int) (t' := (.array .int)) (by decide) (by decide)))
  replace F_o0_least := F_o0_least.other W11 (Or.inr (slot_ne (Or.inr (hw _ (List.mem_of_getElem? (i := 12) rfl))) (Or.inr (hw _ (List.mem_of_getElem? (i := 22) rfl))) (by decide) (t := .long) (t' := (.array .int)) (by decide) (by decide)))
  replace F_o0_downFalls := F_o0_downFalls.other W11 (Or.inr (slot_ne (Or.inr (hw _ (List.mem_of_getElem? (i := 15) rfl))) (Or.inr (hw _ (List.mem_of_getElem? (i := 22) rfl))) (by decide) (t := (.array .double)) (t' := (.array .int)) (by decide) (by decide)))
  replace F_o0_downCounts := F_o0_downCounts.other W11 (Or.inr (slot_ne (Or.inr (hw _ (List.mem_of_getElem? (i := 18) rfl))) (Or.inr (hw _ (List.mem_of_getElem? (i := 22) rfl))) (by decide) (t := (.array .int)) (t' := (.array .int)) (by decide) (by decide)))
  replace F_o0_upFalls := F_o0_upFalls.other W11 (Or.inr (slot_ne (Or.inr (hw _ (List.mem_of_getElem? (i := 20) rfl))) (Or.inr (hw _ (List.mem_of_getElem? (i := 22) rfl))) (by decide) (t := (.array .double)) (t' := (.array .int)) (by decide) (by decide)))
  replace F_o0_upCounts := F_o0_upCounts.same W11
  replace F_o0_branchable := F_o0_branchable.other W11 (Or.inr (slot_ne (Or.inr (hw _ (List.mem_of_getElem? (i := 24) rfl))) (Or.inr (hw _ (List.mem_of_getElem? (i := 22) rfl))) (by decide) (t := (.array .int)) (t' := (.array .int)) (by decide) (by decide)))
  replace E_b4 := E_b4.wr W11
  replace V_b4 := V_b4.other W11 (Ne.symm ne_o0_b4)
  replace E_b6 := E_b6.wr W11
  replace V_b6 := V_b6.other W11 (Ne.symm ne_o0_b6)
  replace E_b8 := E_b8.wr W11
  replace V_b8 := V_b8.other W11 (Ne.symm ne_o0_b8)
  replace E_b10 := E_b10.wr W11
  replace V_b10 := V_b10.other W11 (Ne.symm ne_o0_b10)
  have N11 := Fr.snoc X11 N9 g_o0
  replace K0 := K0.wr W11 (Or.inl (by simp))
  replace Z0 := Nat.le_trans Z0 (Nat.le_of_eq W11.size.symm)
  refine own_aloadN X11 hx hby rfl rfl d1_42 (pc' := 43) rfl ?_
  refine own_iloadN X11 hx hby rfl d1_43 (pc' := 44) rfl ?_
  refine own_newP X11 hx hby hZ (hw _ (List.mem_of_getElem? (i := 16) rfl)) eH11 d1_44 (pc' := 46) rfl (by decide) (N := 2) (by decide) (cap := 2) (by decide) (by decide) (by decide) (by decide) (ad := "[I") (by decide) (fun T12 h12 b12 X12 eH12 E12 g12 E_b12 V_b12 => ?_)
  have g_b12 : n0 ≤ b12 := g12 ▸ Z0
  have sz_b12 : h0.size ≤ b12 := g12 ▸ K0.1
  have ne_o0_b12 : o0 ≠ b12 := Nat.ne_of_lt (g12 ▸ E_o0.lt)
  have ne_b4_b12 : b4 ≠ b12 := Nat.ne_of_lt (g12 ▸ E_b4.lt)
  have ne_b6_b12 : b6 ≠ b12 := Nat.ne_of_lt (g12 ▸ E_b6.lt)
  have ne_b8_b12 : b8 ≠ b12 := Nat.ne_of_lt (g12 ▸ E_b8.lt)
  have ne_b10_b12 : b10 ≠ b12 := Nat.ne_of_lt (g12 ▸ E_b10.lt)
  replace E_o0 := E_o0.ext E12
  replace F_o0_count := F_o0_count.ext E12
  replace F_o0_least := F_o0_least.ext E12
  replace F_o0_downFalls := F_o0_downFalls.ext E12
  replace F_o0_downCounts := F_o0_downCounts.ext E12
  replace F_o0_upFalls := F_o0_upFalls.ext E12
  replace F_o0_upCounts := F_o0_upCounts.ext E12
  replace F_o0_branchable := F_o0_branchable.ext E12
  replace E_b4 := E_b4.ext E12
  replace V_b4 := V_b4.ext E12
  replace E_b6 := E_b6.ext E12
  replace V_b6 := V_b6.ext E12
  replace E_b8 := E_b8.ext E12
  replace V_b8 := V_b8.ext E12
  replace E_b10 := E_b10.ext E12
  replace V_b10 := V_b10.ext E12
  replace K0 := K0.ext E12
  replace Z0 := Nat.le_trans Z0 E12.1
  have V_b12 : Ary tr Z h12 b12 .int [(.int (0 : Int32)), (.int (0 : Int32))] := V_b12
  refine own_putF X12 hx hby hZ hown (host := "") (Or.inl (hw _ (List.mem_of_getElem? (i := 23) rfl))) Via.refl eH12 F_o0_branchable E_o0 (Or.inr ⟨(hw _ (List.mem_of_getElem? (i := 24) rfl)), rfl, hnm⟩) (hw _ (List.mem_of_getElem? (i := 1) rfl)) (ty := (.array .int)) (by decide) rfl rfl d1_46 (pc' := 49) rfl (fun T13 h13 X13 eH13 W13 => ?_)
  replace E_o0 := E_o0.wr W13
  replace F_o0_count := F_o0_count.other W13 (Or.inr (slot_ne (Or.inr (hw _ (List.mem_of_getElem? (i := 10) rfl))) (Or.inr (hw _ (List.mem_of_getElem? (i := 24) rfl))) (by decide) (t := .int) (t' := (.array .int)) (by decide) (by decide)))
  replace F_o0_least := F_o0_least.other W13 (Or.inr (slot_ne (Or.inr (hw _ (List.mem_of_getElem? (i := 12) rfl))) (Or.inr (hw _ (List.mem_of_getElem? (i := 24) rfl))) (by decide) (t := .long) (t' := (.array .int)) (by decide) (by decide)))
  replace F_o0_downFalls := F_o0_downFalls.other W13 (Or.inr (slot_ne (Or.inr (hw _ (List.mem_of_getElem? (i := 15) rfl))) (Or.inr (hw _ (List.mem_of_getElem? (i := 24) rfl))) (by decide) (t := (.array .double)) (t' := (.array .int)) (by decide) (by decide)))
  replace F_o0_downCounts := F_o0_downCounts.other W13 (Or.inr (slot_ne (Or.inr (hw _ (List.mem_of_getElem? (i := 18) rfl))) (Or.inr (hw _ (List.mem_of_getElem? (i := 24) rfl))) (by decide) (t := (.array .int)) (t' := (.array .int)) (by decide) (by decide)))
  replace F_o0_upFalls := F_o0_upFalls.other W13 (Or.inr (slot_ne (Or.inr (hw _ (List.mem_of_getElem? (i := 20) rfl))) (Or.inr (hw _ (List.mem_of_getElem? (i := 24) rfl))) (by decide) (t := (.array .double)) (t' := (.array .int)) (by decide) (by decide)))
  replace F_o0_upCounts := F_o0_upCounts.other W13 (Or.inr (slot_ne (Or.inr (hw _ (List.mem_of_getElem? (i := 22) rfl))) (Or.inr (hw _ (List.mem_of_getElem? (i := 24) rfl))) (by decide) (t := (.array .int)) (t' := (.array .int)) (by decide) (by decide)))
  replace F_o0_branchable := F_o0_branchable.same W13
  replace E_b4 := E_b4.wr W13
  replace V_b4 := V_b4.other W13 (Ne.symm ne_o0_b4)
  replace E_b6 := E_b6.wr W13
  replace V_b6 := V_b6.other W13 (Ne.symm ne_o0_b6)
  replace E_b8 := E_b8.wr W13
  replace V_b8 := V_b8.other W13 (Ne.symm ne_o0_b8)
  replace E_b10 := E_b10.wr W13
  replace V_b10 := V_b10.other W13 (Ne.symm ne_o0_b10)
  replace E_b12 := E_b12.wr W13
  replace V_b12 := V_b12.other W13 (Ne.symm ne_o0_b12)
  have N13 := Fr.snoc X13 N11 g_o0
  replace K0 := K0.wr W13 (Or.inl (by simp))
  replace Z0 := Nat.le_trans Z0 (Nat.le_of_eq W13.size.symm)
  exact own_retV X13 hx hby Bd.notSynchronized Bd.returns d1_49 (by decide) (by decide) eH13 ⟨b4, b6, b8, b10, rfl, N13, K0, sz_b4, sz_b6, sz_b8, sz_b10, ne_b4_b6, ne_b4_b8, ne_b4_b10, ne_b6_b8, ne_b6_b10, ne_b8_b10, E_o0, F_o0_downFalls, F_o0_downCounts, F_o0_upFalls, F_o0_upCounts, E_b4, V_b4, E_b6, V_b6, E_b8, V_b8, E_b10, V_b10⟩
theorem ef300 (m : MethodId) (x0 : Addr) (x3 : UInt64) (x4 : UInt64) : entryFrame m #[(.ref x0), (.int (0 : Int32)), (.int (0 : Int32)), (.double x3), (.double x4)] 7 = mkF m 0 #[.val (.ref x0), .val (.int (0 : Int32)), .val (.int (0 : Int32)), .val (.double x3), .second, .val (.double x4), .second] [] := by first | (simp [entryFrame, mkF, argsToLocals, Value.category]; done) | rfl
def Q300 (Z : State) (o0 : Addr) (f3 : UInt64) (f4 : UInt64) (downFalls_o0 : Addr) (downCounts_o0 : Addr) (df0 : UInt64) (df1 : UInt64) (dc0 : Int32) (dc1 : Int32) (h0 : Heap) (n0 : Nat) (v : Option Value) (h : Heap) (L : List Loc) : Prop := v = none ∧ Fr n0 L ∧ Keep h0 h [downFalls_o0, downCounts_o0] ∧ Ary tr Z h downFalls_o0 .double [(.double (FP.dadd df0 (FP.ddiv f4 f3))), (.double df1)] ∧ Ary tr Z h downCounts_o0 .int [(.int (dc0 + (1 : Int32))), (.int dc1)]
set_option maxRecDepth 65536 in
set_option maxHeartbeats 40000000 in
theorem rm300 (l : Launch) (Z : State) (a0 : Array Value) (hw : ∀ d ∈ tables_1, d.before a0 Z = true) (ws : List Jvm.Cond) (o0 : Addr) (f3 : UInt64) (f4 : UInt64) (downFalls_o0 : Addr) (downCounts_o0 : Addr) (df0 : UInt64) (df1 : UInt64) (dc0 : Int32) (dc1 : Int32) (h0 : Heap) (n0 : Nat) (Z0 : n0 ≤ h0.size) (F_o0_downFalls : Fld Z h0 o0 "com/example/bidfold/bidfold/Branching" "downFalls" "[D" (.ref downFalls_o0)) (F_o0_downCounts : Fld Z h0 o0 "com/example/bidfold/bidfold/Branching" "downCounts" "[I" (.ref downCounts_o0)) (V_downFalls_o0 : Ary tr Z h0 downFalls_o0 .double [(.double df0), (.double df1)]) (V_downCounts_o0 : Ary tr Z h0 downCounts_o0 .int [(.int dc0), (.int dc1)]) (hlo : (¬ (dle f3 (4517329193108106637 : UInt64)))) (hhi : (¬ (dge f3 (4607182409792818153 : UInt64)))) (hn59_1 : (NoNaN64 (FP.ddiv f4 f3))) (hn60_1 : (NoNaN64 (FP.dadd df0 (FP.ddiv f4 f3)))) (g_downFalls_o0 : n0 ≤ downFalls_o0) (ne_o0_downFalls_o0 : o0 ≠ downFalls_o0) (ne_downCounts_o0_downFalls_o0 : downCounts_o0 ≠ downFalls_o0) (g_downCounts_o0 : n0 ≤ downCounts_o0) (ne_o0_downCounts_o0 : o0 ≠ downCounts_o0) :
    MetFree l (⟨"com/example/bidfold/bidfold/Branching", "learn", "(IZDD)V"⟩ : MethodName) (head1 (Jvm.Cond.code (⟨"com/example/bidfold/bidfold/Branching", "learn", "(IZDD)V"⟩ : MethodName) prog_13_method_3_code 7 none :: ws) ({ frames := 0, cells := 0, slots := 0, locals := 0 } : Room)) (fun a U => a = #[(.ref o0), (.int (0 : Int32)), (.int (0 : Int32)), (.double f3), (.double f4)] ∧ Z.Warmed39 U.vm ∧ U.heap = h0) (fun _ _ _ _ _ => True) (fun _ U o U' => ∃ v L, o = .returned v ∧ Q300 Z o0 f3 f4 downFalls_o0 downCounts_o0 df0 df1 dc0 dc1 h0 n0 v U'.heap L ∧ FrameEnd U o U' L ({ frames := 0, cells := 0, slots := 0, locals := 0 } : Room).cells ({ frames := 0, cells := 0, slots := 0, locals := 0 } : Room).slots) := by
  refine MetFree.of_bodySF (plainFor_of_name pn_com_example_bidfold_bidfold_Branching) hisR ?_
  intro p e s m args below meth c s₁ Bd hml0 hP hK
  obtain ⟨rfl, hZ, hhp⟩ := hP
  have hx := Bd.exec
  have hby := Bd.bytes
  have hml : c.maxLocals = 7 := hml0
  have hown : s.vm.findClass "com/example/bidfold/bidfold/Branching" = some m.cls := findClass_of_methodNamed Bd.named
  have hnm := (name_of_methodNamed Bd.named Bd.method).1
  have X0 : Stand p l e ({ frames := 0, cells := 0, slots := 0, locals := 0 } : Room) s m #[(.ref o0), (.int (0 : Int32)), (.int (0 : Int32)), (.double f3), (.double f4)] below meth c s₁ [] 0 0 := Stand.of_body Bd
  have eH0 : s₁.heap = h0 := by rw [← hhp, Bd.state]; rfl
  have N0 := Fr.nil n0
  have K0 := Keep.refl h0 [downFalls_o0, downCounts_o0]
  show Gt p.tables e below (fun o U' => ∃ v L, o = .returned v ∧ Q300 Z o0 f3 f4 downFalls_o0 downCounts_o0 df0 df1 dc0 dc1 h0 n0 v U'.heap L ∧ FrameEnd s o U' L ({ frames := 0, cells := 0, slots := 0, locals := 0 } : Room).cells ({ frames := 0, cells := 0, slots := 0, locals := 0 } : Room).slots) _
  refine own_cast (ef300 m o0 f3 f4) ?_
  refine own_dloadN X0 hx hby rfl d3_0 (pc' := 1) rfl ?_
  refine own_ldc2D X0 hx hby hZ hown (hw _ (List.mem_of_getElem? (i := 31) rfl)) d3_1 (pc' := 4) rfl ?_
  refine own_dcmp X0 hx hby rfl d3_4 (pc' := 5) rfl ?_
  refine own_ifF X0 hx hby d3_5 (own_dg_le_n hlo) (pc' := 8) rfl ?_
  refine own_dloadN X0 hx hby rfl d3_8 (pc' := 9) rfl ?_
  refine own_ldc2D X0 hx hby hZ hown (hw _ (List.mem_of_getElem? (i := 32) rfl)) d3_9 (pc' := 12) rfl ?_
  refine own_dcmp X0 hx hby rfl d3_12 (pc' := 13) rfl ?_
  refine own_ifT X0 hx hby d3_13 (own_dl_lt_n hhi) (by decide) (pc' := 17) (by decide) ?_
  refine own_iloadN X0 hx hby rfl d3_17 (pc' := 18) rfl ?_
  refine own_ifT X0 hx hby d3_18 (by decide) (by decide) (pc' := 49) (by decide) ?_
  refine own_aloadN X0 hx hby rfl rfl d3_49 (pc' := 50) rfl ?_
  refine own_getF X0 hx hby hZ hown (host := "") (Or.inl (hw _ (List.mem_of_getElem? (i := 14) rfl))) Via.refl eH0 F_o0_downFalls d3_50 (pc' := 53) rfl (fun T1 X1 eH1 => ?_)
  refine own_iloadN X1 hx hby rfl d3_53 (pc' := 54) rfl ?_
  refine own_dup2 X1 hx hby rfl rfl d3_54 (pc' := 55) rfl ?_
  refine own_daload X1 hx hby hZ eH1 V_downFalls_o0 (by decide) (v := (.double df0)) rfl d3_55 (pc' := 56) rfl ?_
  refine own_dload X1 hx hby rfl d3_56 (pc' := 58) rfl ?_
  refine own_dloadN X1 hx hby rfl d3_58 (pc' := 59) rfl ?_
  refine own_ddiv X1 hx hby hn59_1 rfl d3_59 (pc' := 60) rfl ?_
  refine own_dadd X1 hx hby hn60_1 rfl d3_60 (pc' := 61) rfl ?_
  refine own_dastore X1 hx hby hZ eH1 V_downFalls_o0 (by decide) (n := 0) (by decide) (of_decide_eq_true rfl) d3_61 (pc' := 62) rfl (fun T2 h2 X2 eH2 W2 => ?_)
  replace F_o0_downFalls := F_o0_downFalls.other W2 (Or.inl ne_o0_downFalls_o0)
  replace F_o0_downCounts := F_o0_downCounts.other W2 (Or.inl ne_o0_downFalls_o0)
  replace V_downCounts_o0 := V_downCounts_o0.other W2 ne_downCounts_o0_downFalls_o0
  have N2 := Fr.snoc X2 N0 g_downFalls_o0
  replace K0 := K0.wr W2 (Or.inl (by simp))
  replace Z0 := Nat.le_trans Z0 (Nat.le_of_eq W2.size.symm)
  replace V_downFalls_o0 : Ary tr Z h2 downFalls_o0 .double [(.double (FP.dadd df0 (FP.ddiv f4 f3))), (.double df1)] := V_downFalls_o0.set W2
  refine own_aloadN X2 hx hby rfl rfl d3_62 (pc' := 63) rfl ?_
  refine own_getF X2 hx hby hZ hown (host := "") (Or.inl (hw _ (List.mem_of_getElem? (i := 17) rfl))) Via.refl eH2 F_o0_downCounts d3_63 (pc' := 66) rfl (fun T3 X3 eH3 => ?_)
  refine own_iloadN X3 hx hby rfl d3_66 (pc' := 67) rfl ?_
  refine own_dup2 X3 hx hby rfl rfl d3_67 (pc' := 68) rfl ?_
  refine own_iaload X3 hx hby hZ eH3 V_downCounts_o0 (by decide) (v := (.int dc0)) rfl d3_68 (pc' := 69) rfl ?_
  refine own_iconst X3 hx hby (v := (1 : Int32)) (by decide) d3_69 (pc' := 70) rfl ?_
  refine own_iadd X3 hx hby rfl d3_70 (pc' := 71) rfl ?_
  refine own_iastore X3 hx hby hZ eH3 V_downCounts_o0 (by decide) (n := 0) (by decide) (of_decide_eq_true rfl) d3_71 (pc' := 72) rfl (fun T4 h4 X4 eH4 W4 => ?_)
  replace F_o0_downFalls := F_o0_downFalls.other W4 (Or.inl ne_o0_downCounts_o0)
  replace F_o0_downCounts := F_o0_downCounts.other W4 (Or.inl ne_o0_downCounts_o0)
  replace V_downFalls_o0 := V_downFalls_o0.other W4 (Ne.symm ne_downCounts_o0_downFalls_o0)
  have N4 := Fr.snoc X4 N2 g_downCounts_o0
  replace K0 := K0.wr W4 (Or.inl (by simp))
  replace Z0 := Nat.le_trans Z0 (Nat.le_of_eq W4.size.symm)
  replace V_downCounts_o0 : Ary tr Z h4 downCounts_o0 .int [(.int (dc0 + (1 : Int32))), (.int dc1)] := V_downCounts_o0.set W4
  exact own_retV X4 hx hby Bd.notSynchronized Bd.returns d3_72 (by decide) (by decide) eH4 ⟨rfl, N4, K0, V_downFalls_o0, V_downCounts_o0⟩
theorem ef301 (m : MethodId) (x0 : Addr) (x3 : UInt64) (x4 : UInt64) : entryFrame m #[(.ref x0), (.int (0 : Int32)), (.int (1 : Int32)), (.double x3), (.double x4)] 7 = mkF m 0 #[.val (.ref x0), .val (.int (0 : Int32)), .val (.int (1 : Int32)), .val (.double x3), .second, .val (.double x4), .second] [] := by first | (simp [entryFrame, mkF, argsToLocals, Value.category]; done) | rfl
def Q301 (Z : State) (o0 : Addr) (f3 : UInt64) (f4 : UInt64) (upFalls_o0 : Addr) (upCounts_o0 : Addr) (uf0 : UInt64) (uf1 : UInt64) (uc0 : Int32) (uc1 : Int32) (h0 : Heap) (n0 : Nat) (v : Option Value) (h : Heap) (L : List Loc) : Prop := v = none ∧ Fr n0 L ∧ Keep h0 h [upFalls_o0, upCounts_o0] ∧ Ary tr Z h upFalls_o0 .double [(.double (FP.dadd uf0 (FP.ddiv f4 (FP.dsub (4607182418800017408 : UInt64) f3)))), (.double uf1)] ∧ Ary tr Z h upCounts_o0 .int [(.int (uc0 + (1 : Int32))), (.int uc1)]
set_option maxRecDepth 65536 in
set_option maxHeartbeats 40000000 in
theorem rm301 (l : Launch) (Z : State) (a0 : Array Value) (hw : ∀ d ∈ tables_1, d.before a0 Z = true) (ws : List Jvm.Cond) (o0 : Addr) (f3 : UInt64) (f4 : UInt64) (upFalls_o0 : Addr) (upCounts_o0 : Addr) (uf0 : UInt64) (uf1 : UInt64) (uc0 : Int32) (uc1 : Int32) (h0 : Heap) (n0 : Nat) (Z0 : n0 ≤ h0.size) (F_o0_upFalls : Fld Z h0 o0 "com/example/bidfold/bidfold/Branching" "upFalls" "[D" (.ref upFalls_o0)) (F_o0_upCounts : Fld Z h0 o0 "com/example/bidfold/bidfold/Branching" "upCounts" "[I" (.ref upCounts_o0)) (V_upFalls_o0 : Ary tr Z h0 upFalls_o0 .double [(.double uf0), (.double uf1)]) (V_upCounts_o0 : Ary tr Z h0 upCounts_o0 .int [(.int uc0), (.int uc1)]) (hlo : (¬ (dle f3 (4517329193108106637 : UInt64)))) (hhi : (¬ (dge f3 (4607182409792818153 : UInt64)))) (hn32_1 : (NoNaN64 (FP.dsub (4607182418800017408 : UInt64) f3))) (hn33_1 : (NoNaN64 (FP.ddiv f4 (FP.dsub (4607182418800017408 : UInt64) f3)))) (hn34_1 : (NoNaN64 (FP.dadd uf0 (FP.ddiv f4 (FP.dsub (4607182418800017408 : UInt64) f3))))) (g_upFalls_o0 : n0 ≤ upFalls_o0) (ne_o0_upFalls_o0 : o0 ≠ upFalls_o0) (ne_upCounts_o0_upFalls_o0 : upCounts_o0 ≠ upFalls_o0) (g_upCounts_o0 : n0 ≤ upCounts_o0) (ne_o0_upCounts_o0 : o0 ≠ upCounts_o0) :
    MetFree l (⟨"com/example/bidfold/bidfold/Branching", "learn", "(IZDD)V"⟩ : MethodName) (head1 (Jvm.Cond.code (⟨"com/example/bidfold/bidfold/Branching", "learn", "(IZDD)V"⟩ : MethodName) prog_13_method_3_code 7 none :: ws) ({ frames := 0, cells := 0, slots := 0, locals := 0 } : Room)) (fun a U => a = #[(.ref o0), (.int (0 : Int32)), (.int (1 : Int32)), (.double f3), (.double f4)] ∧ Z.Warmed39 U.vm ∧ U.heap = h0) (fun _ _ _ _ _ => True) (fun _ U o U' => ∃ v L, o = .returned v ∧ Q301 Z o0 f3 f4 upFalls_o0 upCounts_o0 uf0 uf1 uc0 uc1 h0 n0 v U'.heap L ∧ FrameEnd U o U' L ({ frames := 0, cells := 0, slots := 0, locals := 0 } : Room).cells ({ frames := 0, cells := 0, slots := 0, locals := 0 } : Room).slots) := by
  refine MetFree.of_bodySF (plainFor_of_name pn_com_example_bidfold_bidfold_Branching) hisR ?_
  intro p e s m args below meth c s₁ Bd hml0 hP hK
  obtain ⟨rfl, hZ, hhp⟩ := hP
  have hx := Bd.exec
  have hby := Bd.bytes
  have hml : c.maxLocals = 7 := hml0
  have hown : s.vm.findClass "com/example/bidfold/bidfold/Branching" = some m.cls := findClass_of_methodNamed Bd.named
  have hnm := (name_of_methodNamed Bd.named Bd.method).1
  have X0 : Stand p l e ({ frames := 0, cells := 0, slots := 0, locals := 0 } : Room) s m #[(.ref o0), (.int (0 : Int32)), (.int (1 : Int32)), (.double f3), (.double f4)] below meth c s₁ [] 0 0 := Stand.of_body Bd
  have eH0 : s₁.heap = h0 := by rw [← hhp, Bd.state]; rfl
  have N0 := Fr.nil n0
  have K0 := Keep.refl h0 [upFalls_o0, upCounts_o0]
  show Gt p.tables e below (fun o U' => ∃ v L, o = .returned v ∧ Q301 Z o0 f3 f4 upFalls_o0 upCounts_o0 uf0 uf1 uc0 uc1 h0 n0 v U'.heap L ∧ FrameEnd s o U' L ({ frames := 0, cells := 0, slots := 0, locals := 0 } : Room).cells ({ frames := 0, cells := 0, slots := 0, locals := 0 } : Room).slots) _
  refine own_cast (ef301 m o0 f3 f4) ?_
  refine own_dloadN X0 hx hby rfl d3_0 (pc' := 1) rfl ?_
  refine own_ldc2D X0 hx hby hZ hown (hw _ (List.mem_of_getElem? (i := 31) rfl)) d3_1 (pc' := 4) rfl ?_
  refine own_dcmp X0 hx hby rfl d3_4 (pc' := 5) rfl ?_
  refine own_ifF X0 hx hby d3_5 (own_dg_le_n hlo) (pc' := 8) rfl ?_
  refine own_dloadN X0 hx hby rfl d3_8 (pc' := 9) rfl ?_
  refine own_ldc2D X0 hx hby hZ hown (hw _ (List.mem_of_getElem? (i := 32) rfl)) d3_9 (pc' := 12) rfl ?_
  refine own_dcmp X0 hx hby rfl d3_12 (pc' := 13) rfl ?_
  refine own_ifT X0 hx hby d3_13 (own_dl_lt_n hhi) (by decide) (pc' := 17) (by decide) ?_
  refine own_iloadN X0 hx hby rfl d3_17 (pc' := 18) rfl ?_
  refine own_ifF X0 hx hby d3_18 (by decide) (pc' := 21) rfl ?_
  refine own_aloadN X0 hx hby rfl rfl d3_21 (pc' := 22) rfl ?_
  refine own_getF X0 hx hby hZ hown (host := "") (Or.inl (hw _ (List.mem_of_getElem? (i := 19) rfl))) Via.refl eH0 F_o0_upFalls d3_22 (pc' := 25) rfl (fun T1 X1 eH1 => ?_)
  refine own_iloadN X1 hx hby rfl d3_25 (pc' := 26) rfl ?_
  refine own_dup2 X1 hx hby rfl rfl d3_26 (pc' := 27) rfl ?_
  refine own_daload X1 hx hby hZ eH1 V_upFalls_o0 (by decide) (v := (.double uf0)) rfl d3_27 (pc' := 28) rfl ?_
  refine own_dload X1 hx hby rfl d3_28 (pc' := 30) rfl ?_
  refine own_dconst1 X1 hx hby (v := (4607182418800017408 : UInt64)) (by decide) d3_30 (pc' := 31) rfl ?_
  refine own_dloadN X1 hx hby rfl d3_31 (pc' := 32) rfl ?_
  refine own_dsub X1 hx hby hn32_1 rfl d3_32 (pc' := 33) rfl ?_
  refine own_ddiv X1 hx hby hn33_1 rfl d3_33 (pc' := 34) rfl ?_
  refine own_dadd X1 hx hby hn34_1 rfl d3_34 (pc' := 35) rfl ?_
  refine own_dastore X1 hx hby hZ eH1 V_upFalls_o0 (by decide) (n := 0) (by decide) (of_decide_eq_true rfl) d3_35 (pc' := 36) rfl (fun T2 h2 X2 eH2 W2 => ?_)
  replace F_o0_upFalls := F_o0_upFalls.other W2 (Or.inl ne_o0_upFalls_o0)
  replace F_o0_upCounts := F_o0_upCounts.other W2 (Or.inl ne_o0_upFalls_o0)
  replace V_upCounts_o0 := V_upCounts_o0.other W2 ne_upCounts_o0_upFalls_o0
  have N2 := Fr.snoc X2 N0 g_upFalls_o0
  replace K0 := K0.wr W2 (Or.inl (by simp))
  replace Z0 := Nat.le_trans Z0 (Nat.le_of_eq W2.size.symm)
  replace V_upFalls_o0 : Ary tr Z h2 upFalls_o0 .double [(.double (FP.dadd uf0 (FP.ddiv f4 (FP.dsub (4607182418800017408 : UInt64) f3)))), (.double uf1)] := V_upFalls_o0.set W2
  refine own_aloadN X2 hx hby rfl rfl d3_36 (pc' := 37) rfl ?_
  refine own_getF X2 hx hby hZ hown (host := "") (Or.inl (hw _ (List.mem_of_getElem? (i := 21) rfl))) Via.refl eH2 F_o0_upCounts d3_37 (pc' := 40) rfl (fun T3 X3 eH3 => ?_)
  refine own_iloadN X3 hx hby rfl d3_40 (pc' := 41) rfl ?_
  refine own_dup2 X3 hx hby rfl rfl d3_41 (pc' := 42) rfl ?_
  refine own_iaload X3 hx hby hZ eH3 V_upCounts_o0 (by decide) (v := (.int uc0)) rfl d3_42 (pc' := 43) rfl ?_
  refine own_iconst X3 hx hby (v := (1 : Int32)) (by decide) d3_43 (pc' := 44) rfl ?_
  refine own_iadd X3 hx hby rfl d3_44 (pc' := 45) rfl ?_
  refine own_iastore X3 hx hby hZ eH3 V_upCounts_o0 (by decide) (n := 0) (by decide) (of_decide_eq_true rfl) d3_45 (pc' := 46) rfl (fun T4 h4 X4 eH4 W4 => ?_)
  replace F_o0_upFalls := F_o0_upFalls.other W4 (Or.inl ne_o0_upCounts_o0)
  replace F_o0_upCounts := F_o0_upCounts.other W4 (Or.inl ne_o0_upCounts_o0)
  replace V_upFalls_o0 := V_upFalls_o0.other W4 (Ne.symm ne_upCounts_o0_upFalls_o0)
  have N4 := Fr.snoc X4 N2 g_upCounts_o0
  replace K0 := K0.wr W4 (Or.inl (by simp))
  replace Z0 := Nat.le_trans Z0 (Nat.le_of_eq W4.size.symm)
  replace V_upCounts_o0 : Ary tr Z h4 upCounts_o0 .int [(.int (uc0 + (1 : Int32))), (.int uc1)] := V_upCounts_o0.set W4
  refine own_goto X4 hx hby d3_46 (by decide) (pc' := 72) (by decide) ?_
  exact own_retV X4 hx hby Bd.notSynchronized Bd.returns d3_72 (by decide) (by decide) eH4 ⟨rfl, N4, K0, V_upFalls_o0, V_upCounts_o0⟩
theorem ef310 (m : MethodId) (x0 : Addr) (x3 : UInt64) (x4 : UInt64) : entryFrame m #[(.ref x0), (.int (1 : Int32)), (.int (0 : Int32)), (.double x3), (.double x4)] 7 = mkF m 0 #[.val (.ref x0), .val (.int (1 : Int32)), .val (.int (0 : Int32)), .val (.double x3), .second, .val (.double x4), .second] [] := by first | (simp [entryFrame, mkF, argsToLocals, Value.category]; done) | rfl
def Q310 (Z : State) (o0 : Addr) (f3 : UInt64) (f4 : UInt64) (downFalls_o0 : Addr) (downCounts_o0 : Addr) (df0 : UInt64) (df1 : UInt64) (dc0 : Int32) (dc1 : Int32) (h0 : Heap) (n0 : Nat) (v : Option Value) (h : Heap) (L : List Loc) : Prop := v = none ∧ Fr n0 L ∧ Keep h0 h [downFalls_o0, downCounts_o0] ∧ Ary tr Z h downFalls_o0 .double [(.double df0), (.double (FP.dadd df1 (FP.ddiv f4 f3)))] ∧ Ary tr Z h downCounts_o0 .int [(.int dc0), (.int (dc1 + (1 : Int32)))]
set_option maxRecDepth 65536 in
set_option maxHeartbeats 40000000 in
theorem rm310 (l : Launch) (Z : State) (a0 : Array Value) (hw : ∀ d ∈ tables_1, d.before a0 Z = true) (ws : List Jvm.Cond) (o0 : Addr) (f3 : UInt64) (f4 : UInt64) (downFalls_o0 : Addr) (downCounts_o0 : Addr) (df0 : UInt64) (df1 : UInt64) (dc0 : Int32) (dc1 : Int32) (h0 : Heap) (n0 : Nat) (Z0 : n0 ≤ h0.size) (F_o0_downFalls : Fld Z h0 o0 "com/example/bidfold/bidfold/Branching" "downFalls" "[D" (.ref downFalls_o0)) (F_o0_downCounts : Fld Z h0 o0 "com/example/bidfold/bidfold/Branching" "downCounts" "[I" (.ref downCounts_o0)) (V_downFalls_o0 : Ary tr Z h0 downFalls_o0 .double [(.double df0), (.double df1)]) (V_downCounts_o0 : Ary tr Z h0 downCounts_o0 .int [(.int dc0), (.int dc1)]) (hlo : (¬ (dle f3 (4517329193108106637 : UInt64)))) (hhi : (¬ (dge f3 (4607182409792818153 : UInt64)))) (hn59_1 : (NoNaN64 (FP.ddiv f4 f3))) (hn60_1 : (NoNaN64 (FP.dadd df1 (FP.ddiv f4 f3)))) (g_downFalls_o0 : n0 ≤ downFalls_o0) (ne_o0_downFalls_o0 : o0 ≠ downFalls_o0) (ne_downCounts_o0_downFalls_o0 : downCounts_o0 ≠ downFalls_o0) (g_downCounts_o0 : n0 ≤ downCounts_o0) (ne_o0_downCounts_o0 : o0 ≠ downCounts_o0) :
    MetFree l (⟨"com/example/bidfold/bidfold/Branching", "learn", "(IZDD)V"⟩ : MethodName) (head1 (Jvm.Cond.code (⟨"com/example/bidfold/bidfold/Branching", "learn", "(IZDD)V"⟩ : MethodName) prog_13_method_3_code 7 none :: ws) ({ frames := 0, cells := 0, slots := 0, locals := 0 } : Room)) (fun a U => a = #[(.ref o0), (.int (1 : Int32)), (.int (0 : Int32)), (.double f3), (.double f4)] ∧ Z.Warmed39 U.vm ∧ U.heap = h0) (fun _ _ _ _ _ => True) (fun _ U o U' => ∃ v L, o = .returned v ∧ Q310 Z o0 f3 f4 downFalls_o0 downCounts_o0 df0 df1 dc0 dc1 h0 n0 v U'.heap L ∧ FrameEnd U o U' L ({ frames := 0, cells := 0, slots := 0, locals := 0 } : Room).cells ({ frames := 0, cells := 0, slots := 0, locals := 0 } : Room).slots) := by
  refine MetFree.of_bodySF (plainFor_of_name pn_com_example_bidfold_bidfold_Branching) hisR ?_
  intro p e s m args below meth c s₁ Bd hml0 hP hK
  obtain ⟨rfl, hZ, hhp⟩ := hP
  have hx := Bd.exec
  have hby := Bd.bytes
  have hml : c.maxLocals = 7 := hml0
  have hown : s.vm.findClass "com/example/bidfold/bidfold/Branching" = some m.cls := findClass_of_methodNamed Bd.named
  have hnm := (name_of_methodNamed Bd.named Bd.method).1
  have X0 : Stand p l e ({ frames := 0, cells := 0, slots := 0, locals := 0 } : Room) s m #[(.ref o0), (.int (1 : Int32)), (.int (0 : Int32)), (.double f3), (.double f4)] below meth c s₁ [] 0 0 := Stand.of_body Bd
  have eH0 : s₁.heap = h0 := by rw [← hhp, Bd.state]; rfl
  have N0 := Fr.nil n0
  have K0 := Keep.refl h0 [downFalls_o0, downCounts_o0]
  show Gt p.tables e below (fun o U' => ∃ v L, o = .returned v ∧ Q310 Z o0 f3 f4 downFalls_o0 downCounts_o0 df0 df1 dc0 dc1 h0 n0 v U'.heap L ∧ FrameEnd s o U' L ({ frames := 0, cells := 0, slots := 0, locals := 0 } : Room).cells ({ frames := 0, cells := 0, slots := 0, locals := 0 } : Room).slots) _
  refine own_cast (ef310 m o0 f3 f4) ?_
  refine own_dloadN X0 hx hby rfl d3_0 (pc' := 1) rfl ?_
  refine own_ldc2D X0 hx hby hZ hown (hw _ (List.mem_of_getElem? (i := 31) rfl)) d3_1 (pc' := 4) rfl ?_
  refine own_dcmp X0 hx hby rfl d3_4 (pc' := 5) rfl ?_
  refine own_ifF X0 hx hby d3_5 (own_dg_le_n hlo) (pc' := 8) rfl ?_
  refine own_dloadN X0 hx hby rfl d3_8 (pc' := 9) rfl ?_
  refine own_ldc2D X0 hx hby hZ hown (hw _ (List.mem_of_getElem? (i := 32) rfl)) d3_9 (pc' := 12) rfl ?_
  refine own_dcmp X0 hx hby rfl d3_12 (pc' := 13) rfl ?_
  refine own_ifT X0 hx hby d3_13 (own_dl_lt_n hhi) (by decide) (pc' := 17) (by decide) ?_
  refine own_iloadN X0 hx hby rfl d3_17 (pc' := 18) rfl ?_
  refine own_ifT X0 hx hby d3_18 (by decide) (by decide) (pc' := 49) (by decide) ?_
  refine own_aloadN X0 hx hby rfl rfl d3_49 (pc' := 50) rfl ?_
  refine own_getF X0 hx hby hZ hown (host := "") (Or.inl (hw _ (List.mem_of_getElem? (i := 14) rfl))) Via.refl eH0 F_o0_downFalls d3_50 (pc' := 53) rfl (fun T1 X1 eH1 => ?_)
  refine own_iloadN X1 hx hby rfl d3_53 (pc' := 54) rfl ?_
  refine own_dup2 X1 hx hby rfl rfl d3_54 (pc' := 55) rfl ?_
  refine own_daload X1 hx hby hZ eH1 V_downFalls_o0 (by decide) (v := (.double df1)) rfl d3_55 (pc' := 56) rfl ?_
  refine own_dload X1 hx hby rfl d3_56 (pc' := 58) rfl ?_
  refine own_dloadN X1 hx hby rfl d3_58 (pc' := 59) rfl ?_
  refine own_ddiv X1 hx hby hn59_1 rfl d3_59 (pc' := 60) rfl ?_
  refine own_dadd X1 hx hby hn60_1 rfl d3_60 (pc' := 61) rfl ?_
  refine own_dastore X1 hx hby hZ eH1 V_downFalls_o0 (by decide) (n := 1) (by decide) (of_decide_eq_true rfl) d3_61 (pc' := 62) rfl (fun T2 h2 X2 eH2 W2 => ?_)
  replace F_o0_downFalls := F_o0_downFalls.other W2 (Or.inl ne_o0_downFalls_o0)
  replace F_o0_downCounts := F_o0_downCounts.other W2 (Or.inl ne_o0_downFalls_o0)
  replace V_downCounts_o0 := V_downCounts_o0.other W2 ne_downCounts_o0_downFalls_o0
  have N2 := Fr.snoc X2 N0 g_downFalls_o0
  replace K0 := K0.wr W2 (Or.inl (by simp))
  replace Z0 := Nat.le_trans Z0 (Nat.le_of_eq W2.size.symm)
  replace V_downFalls_o0 : Ary tr Z h2 downFalls_o0 .double [(.double df0), (.double (FP.dadd df1 (FP.ddiv f4 f3)))] := V_downFalls_o0.set W2
  refine own_aloadN X2 hx hby rfl rfl d3_62 (pc' := 63) rfl ?_
  refine own_getF X2 hx hby hZ hown (host := "") (Or.inl (hw _ (List.mem_of_getElem? (i := 17) rfl))) Via.refl eH2 F_o0_downCounts d3_63 (pc' := 66) rfl (fun T3 X3 eH3 => ?_)
  refine own_iloadN X3 hx hby rfl d3_66 (pc' := 67) rfl ?_
  refine own_dup2 X3 hx hby rfl rfl d3_67 (pc' := 68) rfl ?_
  refine own_iaload X3 hx hby hZ eH3 V_downCounts_o0 (by decide) (v := (.int dc1)) rfl d3_68 (pc' := 69) rfl ?_
  refine own_iconst X3 hx hby (v := (1 : Int32)) (by decide) d3_69 (pc' := 70) rfl ?_
  refine own_iadd X3 hx hby rfl d3_70 (pc' := 71) rfl ?_
  refine own_iastore X3 hx hby hZ eH3 V_downCounts_o0 (by decide) (n := 1) (by decide) (of_decide_eq_true rfl) d3_71 (pc' := 72) rfl (fun T4 h4 X4 eH4 W4 => ?_)
  replace F_o0_downFalls := F_o0_downFalls.other W4 (Or.inl ne_o0_downCounts_o0)
  replace F_o0_downCounts := F_o0_downCounts.other W4 (Or.inl ne_o0_downCounts_o0)
  replace V_downFalls_o0 := V_downFalls_o0.other W4 (Ne.symm ne_downCounts_o0_downFalls_o0)
  have N4 := Fr.snoc X4 N2 g_downCounts_o0
  replace K0 := K0.wr W4 (Or.inl (by simp))
  replace Z0 := Nat.le_trans Z0 (Nat.le_of_eq W4.size.symm)
  replace V_downCounts_o0 : Ary tr Z h4 downCounts_o0 .int [(.int dc0), (.int (dc1 + (1 : Int32)))] := V_downCounts_o0.set W4
  exact own_retV X4 hx hby Bd.notSynchronized Bd.returns d3_72 (by decide) (by decide) eH4 ⟨rfl, N4, K0, V_downFalls_o0, V_downCounts_o0⟩
theorem ef311 (m : MethodId) (x0 : Addr) (x3 : UInt64) (x4 : UInt64) : entryFrame m #[(.ref x0), (.int (1 : Int32)), (.int (1 : Int32)), (.double x3), (.double x4)] 7 = mkF m 0 #[.val (.ref x0), .val (.int (1 : Int32)), .val (.int (1 : Int32)), .val (.double x3), .second, .val (.double x4), .second] [] := by first | (simp [entryFrame, mkF, argsToLocals, Value.category]; done) | rfl
def Q311 (Z : State) (o0 : Addr) (f3 : UInt64) (f4 : UInt64) (upFalls_o0 : Addr) (upCounts_o0 : Addr) (uf0 : UInt64) (uf1 : UInt64) (uc0 : Int32) (uc1 : Int32) (h0 : Heap) (n0 : Nat) (v : Option Value) (h : Heap) (L : List Loc) : Prop := v = none ∧ Fr n0 L ∧ Keep h0 h [upFalls_o0, upCounts_o0] ∧ Ary tr Z h upFalls_o0 .double [(.double uf0), (.double (FP.dadd uf1 (FP.ddiv f4 (FP.dsub (4607182418800017408 : UInt64) f3))))] ∧ Ary tr Z h upCounts_o0 .int [(.int uc0), (.int (uc1 + (1 : Int32)))]
set_option maxRecDepth 65536 in
set_option maxHeartbeats 40000000 in
theorem rm311 (l : Launch) (Z : State) (a0 : Array Value) (hw : ∀ d ∈ tables_1, d.before a0 Z = true) (ws : List Jvm.Cond) (o0 : Addr) (f3 : UInt64) (f4 : UInt64) (upFalls_o0 : Addr) (upCounts_o0 : Addr) (uf0 : UInt64) (uf1 : UInt64) (uc0 : Int32) (uc1 : Int32) (h0 : Heap) (n0 : Nat) (Z0 : n0 ≤ h0.size) (F_o0_upFalls : Fld Z h0 o0 "com/example/bidfold/bidfold/Branching" "upFalls" "[D" (.ref upFalls_o0)) (F_o0_upCounts : Fld Z h0 o0 "com/example/bidfold/bidfold/Branching" "upCounts" "[I" (.ref upCounts_o0)) (V_upFalls_o0 : Ary tr Z h0 upFalls_o0 .double [(.double uf0), (.double uf1)]) (V_upCounts_o0 : Ary tr Z h0 upCounts_o0 .int [(.int uc0), (.int uc1)]) (hlo : (¬ (dle f3 (4517329193108106637 : UInt64)))) (hhi : (¬ (dge f3 (4607182409792818153 : UInt64)))) (hn32_1 : (NoNaN64 (FP.dsub (4607182418800017408 : UInt64) f3))) (hn33_1 : (NoNaN64 (FP.ddiv f4 (FP.dsub (4607182418800017408 : UInt64) f3)))) (hn34_1 : (NoNaN64 (FP.dadd uf1 (FP.ddiv f4 (FP.dsub (4607182418800017408 : UInt64) f3))))) (g_upFalls_o0 : n0 ≤ upFalls_o0) (ne_o0_upFalls_o0 : o0 ≠ upFalls_o0) (ne_upCounts_o0_upFalls_o0 : upCounts_o0 ≠ upFalls_o0) (g_upCounts_o0 : n0 ≤ upCounts_o0) (ne_o0_upCounts_o0 : o0 ≠ upCounts_o0) :
    MetFree l (⟨"com/example/bidfold/bidfold/Branching", "learn", "(IZDD)V"⟩ : MethodName) (head1 (Jvm.Cond.code (⟨"com/example/bidfold/bidfold/Branching", "learn", "(IZDD)V"⟩ : MethodName) prog_13_method_3_code 7 none :: ws) ({ frames := 0, cells := 0, slots := 0, locals := 0 } : Room)) (fun a U => a = #[(.ref o0), (.int (1 : Int32)), (.int (1 : Int32)), (.double f3), (.double f4)] ∧ Z.Warmed39 U.vm ∧ U.heap = h0) (fun _ _ _ _ _ => True) (fun _ U o U' => ∃ v L, o = .returned v ∧ Q311 Z o0 f3 f4 upFalls_o0 upCounts_o0 uf0 uf1 uc0 uc1 h0 n0 v U'.heap L ∧ FrameEnd U o U' L ({ frames := 0, cells := 0, slots := 0, locals := 0 } : Room).cells ({ frames := 0, cells := 0, slots := 0, locals := 0 } : Room).slots) := by
  refine MetFree.of_bodySF (plainFor_of_name pn_com_example_bidfold_bidfold_Branching) hisR ?_
  intro p e s m args below meth c s₁ Bd hml0 hP hK
  obtain ⟨rfl, hZ, hhp⟩ := hP
  have hx := Bd.exec
  have hby := Bd.bytes
  have hml : c.maxLocals = 7 := hml0
  have hown : s.vm.findClass "com/example/bidfold/bidfold/Branching" = some m.cls := findClass_of_methodNamed Bd.named
  have hnm := (name_of_methodNamed Bd.named Bd.method).1
  have X0 : Stand p l e ({ frames := 0, cells := 0, slots := 0, locals := 0 } : Room) s m #[(.ref o0), (.int (1 : Int32)), (.int (1 : Int32)), (.double f3), (.double f4)] below meth c s₁ [] 0 0 := Stand.of_body Bd
  have eH0 : s₁.heap = h0 := by rw [← hhp, Bd.state]; rfl
  have N0 := Fr.nil n0
  have K0 := Keep.refl h0 [upFalls_o0, upCounts_o0]
  show Gt p.tables e below (fun o U' => ∃ v L, o = .returned v ∧ Q311 Z o0 f3 f4 upFalls_o0 upCounts_o0 uf0 uf1 uc0 uc1 h0 n0 v U'.heap L ∧ FrameEnd s o U' L ({ frames := 0, cells := 0, slots := 0, locals := 0 } : Room).cells ({ frames := 0, cells := 0, slots := 0, locals := 0 } : Room).slots) _
  refine own_cast (ef311 m o0 f3 f4) ?_
  refine own_dloadN X0 hx hby rfl d3_0 (pc' := 1) rfl ?_
  refine own_ldc2D X0 hx hby hZ hown (hw _ (List.mem_of_getElem? (i := 31) rfl)) d3_1 (pc' := 4) rfl ?_
  refine own_dcmp X0 hx hby rfl d3_4 (pc' := 5) rfl ?_
  refine own_ifF X0 hx hby d3_5 (own_dg_le_n hlo) (pc' := 8) rfl ?_
  refine own_dloadN X0 hx hby rfl d3_8 (pc' := 9) rfl ?_
  refine own_ldc2D X0 hx hby hZ hown (hw _ (List.mem_of_getElem? (i := 32) rfl)) d3_9 (pc' := 12) rfl ?_
  refine own_dcmp X0 hx hby rfl d3_12 (pc' := 13) rfl ?_
  refine own_ifT X0 hx hby d3_13 (own_dl_lt_n hhi) (by decide) (pc' := 17) (by decide) ?_
  refine own_iloadN X0 hx hby rfl d3_17 (pc' := 18) rfl ?_
  refine own_ifF X0 hx hby d3_18 (by decide) (pc' := 21) rfl ?_
  refine own_aloadN X0 hx hby rfl rfl d3_21 (pc' := 22) rfl ?_
  refine own_getF X0 hx hby hZ hown (host := "") (Or.inl (hw _ (List.mem_of_getElem? (i := 19) rfl))) Via.refl eH0 F_o0_upFalls d3_22 (pc' := 25) rfl (fun T1 X1 eH1 => ?_)
  refine own_iloadN X1 hx hby rfl d3_25 (pc' := 26) rfl ?_
  refine own_dup2 X1 hx hby rfl rfl d3_26 (pc' := 27) rfl ?_
  refine own_daload X1 hx hby hZ eH1 V_upFalls_o0 (by decide) (v := (.double uf1)) rfl d3_27 (pc' := 28) rfl ?_
  refine own_dload X1 hx hby rfl d3_28 (pc' := 30) rfl ?_
  refine own_dconst1 X1 hx hby (v := (4607182418800017408 : UInt64)) (by decide) d3_30 (pc' := 31) rfl ?_
  refine own_dloadN X1 hx hby rfl d3_31 (pc' := 32) rfl ?_
  refine own_dsub X1 hx hby hn32_1 rfl d3_32 (pc' := 33) rfl ?_
  refine own_ddiv X1 hx hby hn33_1 rfl d3_33 (pc' := 34) rfl ?_
  refine own_dadd X1 hx hby hn34_1 rfl d3_34 (pc' := 35) rfl ?_
  refine own_dastore X1 hx hby hZ eH1 V_upFalls_o0 (by decide) (n := 1) (by decide) (of_decide_eq_true rfl) d3_35 (pc' := 36) rfl (fun T2 h2 X2 eH2 W2 => ?_)
  replace F_o0_upFalls := F_o0_upFalls.other W2 (Or.inl ne_o0_upFalls_o0)
  replace F_o0_upCounts := F_o0_upCounts.other W2 (Or.inl ne_o0_upFalls_o0)
  replace V_upCounts_o0 := V_upCounts_o0.other W2 ne_upCounts_o0_upFalls_o0
  have N2 := Fr.snoc X2 N0 g_upFalls_o0
  replace K0 := K0.wr W2 (Or.inl (by simp))
  replace Z0 := Nat.le_trans Z0 (Nat.le_of_eq W2.size.symm)
  replace V_upFalls_o0 : Ary tr Z h2 upFalls_o0 .double [(.double uf0), (.double (FP.dadd uf1 (FP.ddiv f4 (FP.dsub (4607182418800017408 : UInt64) f3))))] := V_upFalls_o0.set W2
  refine own_aloadN X2 hx hby rfl rfl d3_36 (pc' := 37) rfl ?_
  refine own_getF X2 hx hby hZ hown (host := "") (Or.inl (hw _ (List.mem_of_getElem? (i := 21) rfl))) Via.refl eH2 F_o0_upCounts d3_37 (pc' := 40) rfl (fun T3 X3 eH3 => ?_)
  refine own_iloadN X3 hx hby rfl d3_40 (pc' := 41) rfl ?_
  refine own_dup2 X3 hx hby rfl rfl d3_41 (pc' := 42) rfl ?_
  refine own_iaload X3 hx hby hZ eH3 V_upCounts_o0 (by decide) (v := (.int uc1)) rfl d3_42 (pc' := 43) rfl ?_
  refine own_iconst X3 hx hby (v := (1 : Int32)) (by decide) d3_43 (pc' := 44) rfl ?_
  refine own_iadd X3 hx hby rfl d3_44 (pc' := 45) rfl ?_
  refine own_iastore X3 hx hby hZ eH3 V_upCounts_o0 (by decide) (n := 1) (by decide) (of_decide_eq_true rfl) d3_45 (pc' := 46) rfl (fun T4 h4 X4 eH4 W4 => ?_)
  replace F_o0_upFalls := F_o0_upFalls.other W4 (Or.inl ne_o0_upCounts_o0)
  replace F_o0_upCounts := F_o0_upCounts.other W4 (Or.inl ne_o0_upCounts_o0)
  replace V_upFalls_o0 := V_upFalls_o0.other W4 (Ne.symm ne_upCounts_o0_upFalls_o0)
  have N4 := Fr.snoc X4 N2 g_upCounts_o0
  replace K0 := K0.wr W4 (Or.inl (by simp))
  replace Z0 := Nat.le_trans Z0 (Nat.le_of_eq W4.size.symm)
  replace V_upCounts_o0 : Ary tr Z h4 upCounts_o0 .int [(.int uc0), (.int (uc1 + (1 : Int32)))] := V_upCounts_o0.set W4
  refine own_goto X4 hx hby d3_46 (by decide) (pc' := 72) (by decide) ?_
  exact own_retV X4 hx hby Bd.notSynchronized Bd.returns d3_72 (by decide) (by decide) eH4 ⟨rfl, N4, K0, V_upFalls_o0, V_upCounts_o0⟩
theorem ef50 (m : MethodId) (x0 : Addr) (x1 : Addr) (x3 : UInt64) : entryFrame m #[(.ref x0), (.ref x1), (.int (0 : Int32)), (.double x3)] 5 = mkF m 0 #[.val (.ref x0), .val (.ref x1), .val (.int (0 : Int32)), .val (.double x3), .second] [] := by first | (simp [entryFrame, mkF, argsToLocals, Value.category]; done) | rfl
def Q50 (Z : State) (o0 : Addr) (o1 : Addr) (f3 : UInt64) (e0 : UInt64) (e1 : UInt64) (cn0 : Int32) (cn1 : Int32) (h0 : Heap) (n0 : Nat) (v : Option Value) (h : Heap) (L : List Loc) : Prop := v = some (.double (if 0 < cn0 then (FP.ddiv e0 (FP.i2d cn0)) else f3)) ∧ Fr n0 L ∧ h0 = h
set_option maxRecDepth 65536 in
set_option maxHeartbeats 40000000 in
theorem rm50 (l : Launch) (Z : State) (a0 : Array Value) (hw : ∀ d ∈ tables_1, d.before a0 Z = true) (ws : List Jvm.Cond) (o0 : Addr) (o1 : Addr) (f3 : UInt64) (e0 : UInt64) (e1 : UInt64) (cn0 : Int32) (cn1 : Int32) (h0 : Heap) (n0 : Nat) (Z0 : n0 ≤ h0.size) (V_o0 : Ary tr Z h0 o0 .double [(.double e0), (.double e1)]) (V_o1 : Ary tr Z h0 o1 .int [(.int cn0), (.int cn1)]) (hn13_1 : ((0 < cn0) → NoNaN64 (FP.ddiv e0 (FP.i2d cn0)))) :
    MetFree l (⟨"com/example/bidfold/bidfold/Branching", "fallPerUnit", "([D[IID)D"⟩ : MethodName) (head1 (Jvm.Cond.code (⟨"com/example/bidfold/bidfold/Branching", "fallPerUnit", "([D[IID)D"⟩ : MethodName) prog_13_method_7_code 5 (some .double) :: ws) ({ frames := 0, cells := 0, slots := 0, locals := 0 } : Room)) (fun a U => a = #[(.ref o0), (.ref o1), (.int (0 : Int32)), (.double f3)] ∧ Z.Warmed39 U.vm ∧ U.heap = h0) (fun _ _ _ _ _ => True) (fun _ U o U' => ∃ v L, o = .returned v ∧ Q50 Z o0 o1 f3 e0 e1 cn0 cn1 h0 n0 v U'.heap L ∧ FrameEnd U o U' L ({ frames := 0, cells := 0, slots := 0, locals := 0 } : Room).cells ({ frames := 0, cells := 0, slots := 0, locals := 0 } : Room).slots) := by
  refine MetFree.of_bodySF (plainFor_of_name pn_com_example_bidfold_bidfold_Branching) hisR ?_
  intro p e s m args below meth c s₁ Bd hml0 hP hK
  obtain ⟨rfl, hZ, hhp⟩ := hP
  have hx := Bd.exec
  have hby := Bd.bytes
  have hml : c.maxLocals = 5 := hml0
  have hown : s.vm.findClass "com/example/bidfold/bidfold/Branching" = some m.cls := findClass_of_methodNamed Bd.named
  have hnm := (name_of_methodNamed Bd.named Bd.method).1
  have X0 : Stand p l e ({ frames := 0, cells := 0, slots := 0, locals := 0 } : Room) s m #[(.ref o0), (.ref o1), (.int (0 : Int32)), (.double f3)] below meth c s₁ [] 0 0 := Stand.of_body Bd
  have eH0 : s₁.heap = h0 := by rw [← hhp, Bd.state]; rfl
  have N0 := Fr.nil n0
  show Gt p.tables e below (fun o U' => ∃ v L, o = .returned v ∧ Q50 Z o0 o1 f3 e0 e1 cn0 cn1 h0 n0 v U'.heap L ∧ FrameEnd s o U' L ({ frames := 0, cells := 0, slots := 0, locals := 0 } : Room).cells ({ frames := 0, cells := 0, slots := 0, locals := 0 } : Room).slots) _
  refine own_cast (ef50 m o0 o1 f3) ?_
  refine own_aloadN X0 hx hby rfl rfl d5_0 (pc' := 1) rfl ?_
  refine own_iloadN X0 hx hby rfl d5_1 (pc' := 2) rfl ?_
  refine own_iaload X0 hx hby hZ eH0 V_o1 (by decide) (v := (.int cn0)) rfl d5_2 (pc' := 3) rfl ?_
  by_cases hc1 : 0 < cn0
  · refine own_ifF X0 hx hby d5_3 (own_i0_le_p hc1) (pc' := 6) rfl ?_
    refine own_aloadN X0 hx hby rfl rfl d5_6 (pc' := 7) rfl ?_
    refine own_iloadN X0 hx hby rfl d5_7 (pc' := 8) rfl ?_
    refine own_daload X0 hx hby hZ eH0 V_o0 (by decide) (v := (.double e0)) rfl d5_8 (pc' := 9) rfl ?_
    refine own_aloadN X0 hx hby rfl rfl d5_9 (pc' := 10) rfl ?_
    refine own_iloadN X0 hx hby rfl d5_10 (pc' := 11) rfl ?_
    refine own_iaload X0 hx hby hZ eH0 V_o1 (by decide) (v := (.int cn0)) rfl d5_11 (pc' := 12) rfl ?_
    refine own_i2d X0 hx hby rfl d5_12 (pc' := 13) rfl ?_
    refine own_ddiv X0 hx hby (hn13_1 hc1) rfl d5_13 (pc' := 14) rfl ?_
    refine own_goto X0 hx hby d5_14 (by decide) (pc' := 18) (by decide) ?_
    exact own_retD X0 hx hby Bd.notSynchronized Bd.returns d5_18 (by decide) (by decide) eH0 ⟨(by rw [if_pos hc1]), N0, rfl⟩
  · refine own_ifT X0 hx hby d5_3 (own_i0_le_n hc1) (by decide) (pc' := 17) (by decide) ?_
    refine own_dloadN X0 hx hby rfl d5_17 (pc' := 18) rfl ?_
    exact own_retD X0 hx hby Bd.notSynchronized Bd.returns d5_18 (by decide) (by decide) eH0 ⟨(by rw [if_neg hc1]), N0, rfl⟩
theorem ef51 (m : MethodId) (x0 : Addr) (x1 : Addr) (x3 : UInt64) : entryFrame m #[(.ref x0), (.ref x1), (.int (1 : Int32)), (.double x3)] 5 = mkF m 0 #[.val (.ref x0), .val (.ref x1), .val (.int (1 : Int32)), .val (.double x3), .second] [] := by first | (simp [entryFrame, mkF, argsToLocals, Value.category]; done) | rfl
def Q51 (Z : State) (o0 : Addr) (o1 : Addr) (f3 : UInt64) (e0 : UInt64) (e1 : UInt64) (cn0 : Int32) (cn1 : Int32) (h0 : Heap) (n0 : Nat) (v : Option Value) (h : Heap) (L : List Loc) : Prop := v = some (.double (if 0 < cn1 then (FP.ddiv e1 (FP.i2d cn1)) else f3)) ∧ Fr n0 L ∧ h0 = h
set_option maxRecDepth 65536 in
set_option maxHeartbeats 40000000 in
theorem rm51 (l : Launch) (Z : State) (a0 : Array Value) (hw : ∀ d ∈ tables_1, d.before a0 Z = true) (ws : List Jvm.Cond) (o0 : Addr) (o1 : Addr) (f3 : UInt64) (e0 : UInt64) (e1 : UInt64) (cn0 : Int32) (cn1 : Int32) (h0 : Heap) (n0 : Nat) (Z0 : n0 ≤ h0.size) (V_o0 : Ary tr Z h0 o0 .double [(.double e0), (.double e1)]) (V_o1 : Ary tr Z h0 o1 .int [(.int cn0), (.int cn1)]) (hn13_1 : ((0 < cn1) → NoNaN64 (FP.ddiv e1 (FP.i2d cn1)))) :
    MetFree l (⟨"com/example/bidfold/bidfold/Branching", "fallPerUnit", "([D[IID)D"⟩ : MethodName) (head1 (Jvm.Cond.code (⟨"com/example/bidfold/bidfold/Branching", "fallPerUnit", "([D[IID)D"⟩ : MethodName) prog_13_method_7_code 5 (some .double) :: ws) ({ frames := 0, cells := 0, slots := 0, locals := 0 } : Room)) (fun a U => a = #[(.ref o0), (.ref o1), (.int (1 : Int32)), (.double f3)] ∧ Z.Warmed39 U.vm ∧ U.heap = h0) (fun _ _ _ _ _ => True) (fun _ U o U' => ∃ v L, o = .returned v ∧ Q51 Z o0 o1 f3 e0 e1 cn0 cn1 h0 n0 v U'.heap L ∧ FrameEnd U o U' L ({ frames := 0, cells := 0, slots := 0, locals := 0 } : Room).cells ({ frames := 0, cells := 0, slots := 0, locals := 0 } : Room).slots) := by
  refine MetFree.of_bodySF (plainFor_of_name pn_com_example_bidfold_bidfold_Branching) hisR ?_
  intro p e s m args below meth c s₁ Bd hml0 hP hK
  obtain ⟨rfl, hZ, hhp⟩ := hP
  have hx := Bd.exec
  have hby := Bd.bytes
  have hml : c.maxLocals = 5 := hml0
  have hown : s.vm.findClass "com/example/bidfold/bidfold/Branching" = some m.cls := findClass_of_methodNamed Bd.named
  have hnm := (name_of_methodNamed Bd.named Bd.method).1
  have X0 : Stand p l e ({ frames := 0, cells := 0, slots := 0, locals := 0 } : Room) s m #[(.ref o0), (.ref o1), (.int (1 : Int32)), (.double f3)] below meth c s₁ [] 0 0 := Stand.of_body Bd
  have eH0 : s₁.heap = h0 := by rw [← hhp, Bd.state]; rfl
  have N0 := Fr.nil n0
  show Gt p.tables e below (fun o U' => ∃ v L, o = .returned v ∧ Q51 Z o0 o1 f3 e0 e1 cn0 cn1 h0 n0 v U'.heap L ∧ FrameEnd s o U' L ({ frames := 0, cells := 0, slots := 0, locals := 0 } : Room).cells ({ frames := 0, cells := 0, slots := 0, locals := 0 } : Room).slots) _
  refine own_cast (ef51 m o0 o1 f3) ?_
  refine own_aloadN X0 hx hby rfl rfl d5_0 (pc' := 1) rfl ?_
  refine own_iloadN X0 hx hby rfl d5_1 (pc' := 2) rfl ?_
  refine own_iaload X0 hx hby hZ eH0 V_o1 (by decide) (v := (.int cn1)) rfl d5_2 (pc' := 3) rfl ?_
  by_cases hc1 : 0 < cn1
  · refine own_ifF X0 hx hby d5_3 (own_i0_le_p hc1) (pc' := 6) rfl ?_
    refine own_aloadN X0 hx hby rfl rfl d5_6 (pc' := 7) rfl ?_
    refine own_iloadN X0 hx hby rfl d5_7 (pc' := 8) rfl ?_
    refine own_daload X0 hx hby hZ eH0 V_o0 (by decide) (v := (.double e1)) rfl d5_8 (pc' := 9) rfl ?_
    refine own_aloadN X0 hx hby rfl rfl d5_9 (pc' := 10) rfl ?_
    refine own_iloadN X0 hx hby rfl d5_10 (pc' := 11) rfl ?_
    refine own_iaload X0 hx hby hZ eH0 V_o1 (by decide) (v := (.int cn1)) rfl d5_11 (pc' := 12) rfl ?_
    refine own_i2d X0 hx hby rfl d5_12 (pc' := 13) rfl ?_
    refine own_ddiv X0 hx hby (hn13_1 hc1) rfl d5_13 (pc' := 14) rfl ?_
    refine own_goto X0 hx hby d5_14 (by decide) (pc' := 18) (by decide) ?_
    exact own_retD X0 hx hby Bd.notSynchronized Bd.returns d5_18 (by decide) (by decide) eH0 ⟨(by rw [if_pos hc1]), N0, rfl⟩
  · refine own_ifT X0 hx hby d5_3 (own_i0_le_n hc1) (by decide) (pc' := 17) (by decide) ?_
    refine own_dloadN X0 hx hby rfl d5_17 (pc' := 18) rfl ?_
    exact own_retD X0 hx hby Bd.notSynchronized Bd.returns d5_18 (by decide) (by decide) eH0 ⟨(by rw [if_neg hc1]), N0, rfl⟩
theorem ef40 (m : MethodId) (x0 : Addr) (x2 : UInt64) : entryFrame m #[(.ref x0), (.int (0 : Int32)), (.double x2)] 4 = mkF m 0 #[.val (.ref x0), .val (.int (0 : Int32)), .val (.double x2), .second] [] := by first | (simp [entryFrame, mkF, argsToLocals, Value.category]; done) | rfl
def Q40 (Z : State) (o0 : Addr) (f2 : UInt64) (upFalls_o0 : Addr) (upCounts_o0 : Addr) (uf0 : UInt64) (uf1 : UInt64) (uc0 : Int32) (uc1 : Int32) (downFalls_o0 : Addr) (downCounts_o0 : Addr) (df0 : UInt64) (df1 : UInt64) (dc0 : Int32) (dc1 : Int32) (h0 : Heap) (n0 : Nat) (v : Option Value) (h : Heap) (L : List Loc) : Prop := v = some (.int (if dle (FP.dmul (if 0 < uc0 then (FP.ddiv uf0 (FP.i2d uc0)) else (4607182418800017408 : UInt64)) (FP.dsub (4607182418800017408 : UInt64) f2)) (FP.dmul (if 0 < dc0 then (FP.ddiv df0 (FP.i2d dc0)) else (4607182418800017408 : UInt64)) f2) then (1 : Int32) else (0 : Int32))) ∧ Fr n0 L ∧ h0 = h
set_option maxRecDepth 65536 in
set_option maxHeartbeats 40000000 in
theorem rm40 (l : Launch) (Z : State) (a0 : Array Value) (hw : ∀ d ∈ tables_1, d.before a0 Z = true) (ws : List Jvm.Cond) (o0 : Addr) (f2 : UInt64) (upFalls_o0 : Addr) (upCounts_o0 : Addr) (uf0 : UInt64) (uf1 : UInt64) (uc0 : Int32) (uc1 : Int32) (downFalls_o0 : Addr) (downCounts_o0 : Addr) (df0 : UInt64) (df1 : UInt64) (dc0 : Int32) (dc1 : Int32) (h0 : Heap) (n0 : Nat) (Z0 : n0 ≤ h0.size) (F_o0_upFalls : Fld Z h0 o0 "com/example/bidfold/bidfold/Branching" "upFalls" "[D" (.ref upFalls_o0)) (F_o0_upCounts : Fld Z h0 o0 "com/example/bidfold/bidfold/Branching" "upCounts" "[I" (.ref upCounts_o0)) (V_upFalls_o0 : Ary tr Z h0 upFalls_o0 .double [(.double uf0), (.double uf1)]) (V_upCounts_o0 : Ary tr Z h0 upCounts_o0 .int [(.int uc0), (.int uc1)]) (F_o0_downFalls : Fld Z h0 o0 "com/example/bidfold/bidfold/Branching" "downFalls" "[D" (.ref downFalls_o0)) (F_o0_downCounts : Fld Z h0 o0 "com/example/bidfold/bidfold/Branching" "downCounts" "[I" (.ref downCounts_o0)) (V_downFalls_o0 : Ary tr Z h0 downFalls_o0 .double [(.double df0), (.double df1)]) (V_downCounts_o0 : Ary tr Z h0 downCounts_o0 .int [(.int dc0), (.int dc1)]) (hn13_1_10 : ((0 < uc0) → NoNaN64 (FP.ddiv uf0 (FP.i2d uc0)))) (hn15_1 : (NoNaN64 (FP.dsub (4607182418800017408 : UInt64) f2))) (hn16_1 : (NoNaN64 (FP.dmul (if 0 < uc0 then (FP.ddiv uf0 (FP.i2d uc0)) else (4607182418800017408 : UInt64)) (FP.dsub (4607182418800017408 : UInt64) f2)))) (hn13_1_27 : ((0 < dc0) → NoNaN64 (FP.ddiv df0 (FP.i2d dc0)))) (hn31_1 : (NoNaN64 (FP.dmul (if 0 < dc0 then (FP.ddiv df0 (FP.i2d dc0)) else (4607182418800017408 : UInt64)) f2))) :
    MetFree l (⟨"com/example/bidfold/bidfold/Branching", "leansIn", "(ID)Z"⟩ : MethodName) (head1 (Jvm.Cond.code (⟨"com/example/bidfold/bidfold/Branching", "leansIn", "(ID)Z"⟩ : MethodName) prog_13_method_4_code 4 (some .boolean) :: ws) ({ frames := 1, cells := 0, slots := 0, locals := 18 } : Room)) (fun a U => a = #[(.ref o0), (.int (0 : Int32)), (.double f2)] ∧ Z.Warmed39 U.vm ∧ U.heap = h0) (fun _ _ _ _ _ => True) (fun _ U o U' => ∃ v L, o = .returned v ∧ Q40 Z o0 f2 upFalls_o0 upCounts_o0 uf0 uf1 uc0 uc1 downFalls_o0 downCounts_o0 df0 df1 dc0 dc1 h0 n0 v U'.heap L ∧ FrameEnd U o U' L ({ frames := 1, cells := 0, slots := 0, locals := 18 } : Room).cells ({ frames := 1, cells := 0, slots := 0, locals := 18 } : Room).slots) := by
  refine MetFree.of_bodySF (plainFor_of_name pn_com_example_bidfold_bidfold_Branching) hisR ?_
  intro p e s m args below meth c s₁ Bd hml0 hP hK
  obtain ⟨rfl, hZ, hhp⟩ := hP
  have hx := Bd.exec
  have hby := Bd.bytes
  have hml : c.maxLocals = 4 := hml0
  have hown : s.vm.findClass "com/example/bidfold/bidfold/Branching" = some m.cls := findClass_of_methodNamed Bd.named
  have hnm := (name_of_methodNamed Bd.named Bd.method).1
  have X0 : Stand p l e ({ frames := 1, cells := 0, slots := 0, locals := 18 } : Room) s m #[(.ref o0), (.int (0 : Int32)), (.double f2)] below meth c s₁ [] 0 0 := Stand.of_body Bd
  have eH0 : s₁.heap = h0 := by rw [← hhp, Bd.state]; rfl
  have N0 := Fr.nil n0
  show Gt p.tables e below (fun o U' => ∃ v L, o = .returned v ∧ Q40 Z o0 f2 upFalls_o0 upCounts_o0 uf0 uf1 uc0 uc1 downFalls_o0 downCounts_o0 df0 df1 dc0 dc1 h0 n0 v U'.heap L ∧ FrameEnd s o U' L ({ frames := 1, cells := 0, slots := 0, locals := 18 } : Room).cells ({ frames := 1, cells := 0, slots := 0, locals := 18 } : Room).slots) _
  refine own_cast (ef40 m o0 f2) ?_
  refine own_aloadN X0 hx hby rfl rfl d4_0 (pc' := 1) rfl ?_
  refine own_getF X0 hx hby hZ hown (host := "") (Or.inl (hw _ (List.mem_of_getElem? (i := 19) rfl))) Via.refl eH0 F_o0_upFalls d4_1 (pc' := 4) rfl (fun T1 X1 eH1 => ?_)
  refine own_aloadN X1 hx hby rfl rfl d4_4 (pc' := 5) rfl ?_
  refine own_getF X1 hx hby hZ hown (host := "") (Or.inl (hw _ (List.mem_of_getElem? (i := 21) rfl))) Via.refl eH1 F_o0_upCounts d4_5 (pc' := 8) rfl (fun T2 X2 eH2 => ?_)
  refine own_iloadN X2 hx hby rfl d4_8 (pc' := 9) rfl ?_
  refine own_dconst1 X2 hx hby (v := (4607182418800017408 : UInt64)) (by decide) d4_9 (pc' := 10) rfl ?_
  refine own_static X2 hx hby hZ (y := (⟨"com/example/bidfold/bidfold/Branching", "fallPerUnit", "([D[IID)D"⟩ : MethodName)) (rest := []) hown (hw _ (List.mem_of_getElem? (i := 39) rfl)) (hw _ (List.mem_of_getElem? (i := 40) rfl)) (hw _ (List.mem_of_getElem? (i := 41) rfl)) (hw _ (List.mem_of_getElem? (i := 2) rfl)) (by decide) (rm50 l Z a0 hw [] upFalls_o0 upCounts_o0 (4607182418800017408 : UInt64) uf0 uf1 uc0 uc1 h0 n0 Z0 V_upFalls_o0 V_upCounts_o0 hn13_1_10) eH2 (by rw [hml]; rfl) (argsL := [(.ref upFalls_o0), (.ref upCounts_o0), (.int (0 : Int32)), (.double (4607182418800017408 : UInt64))]) rfl (lenOf pd_0 rfl) rfl d4_10 (pc' := 13) rfl (by decide) (W := 0) (Nat.le_of_eq rfl) (by decide) (by decide) (by decide) (fun T3 h3 Lc3 v3r X3 eH3 hQ3 => ?_)
  obtain ⟨rfl, Nq3, rfl⟩ := hQ3
  have N3 := Fr.app N0 Nq3
  refine own_dconst1 X3 hx hby (v := (4607182418800017408 : UInt64)) (by decide) d4_13 (pc' := 14) rfl ?_
  refine own_dloadN X3 hx hby rfl d4_14 (pc' := 15) rfl ?_
  refine own_dsub X3 hx hby hn15_1 rfl d4_15 (pc' := 16) rfl ?_
  refine own_dmul X3 hx hby hn16_1 rfl d4_16 (pc' := 17) rfl ?_
  refine own_aloadN X3 hx hby rfl rfl d4_17 (pc' := 18) rfl ?_
  refine own_getF X3 hx hby hZ hown (host := "") (Or.inl (hw _ (List.mem_of_getElem? (i := 14) rfl))) Via.refl eH3 F_o0_downFalls d4_18 (pc' := 21) rfl (fun T4 X4 eH4 => ?_)
  refine own_aloadN X4 hx hby rfl rfl d4_21 (pc' := 22) rfl ?_
  refine own_getF X4 hx hby hZ hown (host := "") (Or.inl (hw _ (List.mem_of_getElem? (i := 17) rfl))) Via.refl eH4 F_o0_downCounts d4_22 (pc' := 25) rfl (fun T5 X5 eH5 => ?_)
  refine own_iloadN X5 hx hby rfl d4_25 (pc' := 26) rfl ?_
  refine own_dconst1 X5 hx hby (v := (4607182418800017408 : UInt64)) (by decide) d4_26 (pc' := 27) rfl ?_
  refine own_static X5 hx hby hZ (y := (⟨"com/example/bidfold/bidfold/Branching", "fallPerUnit", "([D[IID)D"⟩ : MethodName)) (rest := [(.double (FP.dmul (if 0 < uc0 then (FP.ddiv uf0 (FP.i2d uc0)) else (4607182418800017408 : UInt64)) (FP.dsub (4607182418800017408 : UInt64) f2)))]) hown (hw _ (List.mem_of_getElem? (i := 39) rfl)) (hw _ (List.mem_of_getElem? (i := 40) rfl)) (hw _ (List.mem_of_getElem? (i := 41) rfl)) (hw _ (List.mem_of_getElem? (i := 2) rfl)) (by decide) (rm50 l Z a0 hw [] downFalls_o0 downCounts_o0 (4607182418800017408 : UInt64) df0 df1 dc0 dc1 h0 n0 Z0 V_downFalls_o0 V_downCounts_o0 hn13_1_27) eH5 (by rw [hml]; rfl) (argsL := [(.ref downFalls_o0), (.ref downCounts_o0), (.int (0 : Int32)), (.double (4607182418800017408 : UInt64))]) rfl (lenOf pd_0 rfl) rfl d4_27 (pc' := 30) rfl (by decide) (W := 2) (Nat.le_of_eq rfl) (by decide) (by decide) (by decide) (fun T6 h6 Lc6 v6r X6 eH6 hQ6 => ?_)
  obtain ⟨rfl, Nq6, rfl⟩ := hQ6
  have N6 := Fr.app N3 Nq6
  refine own_dloadN X6 hx hby rfl d4_30 (pc' := 31) rfl ?_
  refine own_dmul X6 hx hby hn31_1 rfl d4_31 (pc' := 32) rfl ?_
  refine own_dcmp X6 hx hby rfl d4_32 (pc' := 33) rfl ?_
  by_cases hc7 : dle (FP.dmul (if 0 < uc0 then (FP.ddiv uf0 (FP.i2d uc0)) else (4607182418800017408 : UInt64)) (FP.dsub (4607182418800017408 : UInt64) f2)) (FP.dmul (if 0 < dc0 then (FP.ddiv df0 (FP.i2d dc0)) else (4607182418800017408 : UInt64)) f2)
  · refine own_ifF X6 hx hby d4_33 (own_dg_gt_p hc7) (pc' := 36) rfl ?_
    refine own_iconst X6 hx hby (v := (1 : Int32)) (by decide) d4_36 (pc' := 37) rfl ?_
    refine own_goto X6 hx hby d4_37 (by decide) (pc' := 41) (by decide) ?_
    exact own_retZ X6 hx hby Bd.notSynchronized Bd.returns (Or.inr rfl) d4_41 (by decide) (by decide) eH6 ⟨(by rw [if_pos hc7]), N6, rfl⟩
  · refine own_ifT X6 hx hby d4_33 (own_dg_gt_n hc7) (by decide) (pc' := 40) (by decide) ?_
    refine own_iconst X6 hx hby (v := (0 : Int32)) (by decide) d4_40 (pc' := 41) rfl ?_
    exact own_retZ X6 hx hby Bd.notSynchronized Bd.returns (Or.inl rfl) d4_41 (by decide) (by decide) eH6 ⟨(by rw [if_neg hc7]), N6, rfl⟩
theorem ef41 (m : MethodId) (x0 : Addr) (x2 : UInt64) : entryFrame m #[(.ref x0), (.int (1 : Int32)), (.double x2)] 4 = mkF m 0 #[.val (.ref x0), .val (.int (1 : Int32)), .val (.double x2), .second] [] := by first | (simp [entryFrame, mkF, argsToLocals, Value.category]; done) | rfl
def Q41 (Z : State) (o0 : Addr) (f2 : UInt64) (upFalls_o0 : Addr) (upCounts_o0 : Addr) (uf0 : UInt64) (uf1 : UInt64) (uc0 : Int32) (uc1 : Int32) (downFalls_o0 : Addr) (downCounts_o0 : Addr) (df0 : UInt64) (df1 : UInt64) (dc0 : Int32) (dc1 : Int32) (h0 : Heap) (n0 : Nat) (v : Option Value) (h : Heap) (L : List Loc) : Prop := v = some (.int (if dle (FP.dmul (if 0 < uc1 then (FP.ddiv uf1 (FP.i2d uc1)) else (4607182418800017408 : UInt64)) (FP.dsub (4607182418800017408 : UInt64) f2)) (FP.dmul (if 0 < dc1 then (FP.ddiv df1 (FP.i2d dc1)) else (4607182418800017408 : UInt64)) f2) then (1 : Int32) else (0 : Int32))) ∧ Fr n0 L ∧ h0 = h
set_option maxRecDepth 65536 in
set_option maxHeartbeats 40000000 in
theorem rm41 (l : Launch) (Z : State) (a0 : Array Value) (hw : ∀ d ∈ tables_1, d.before a0 Z = true) (ws : List Jvm.Cond) (o0 : Addr) (f2 : UInt64) (upFalls_o0 : Addr) (upCounts_o0 : Addr) (uf0 : UInt64) (uf1 : UInt64) (uc0 : Int32) (uc1 : Int32) (downFalls_o0 : Addr) (downCounts_o0 : Addr) (df0 : UInt64) (df1 : UInt64) (dc0 : Int32) (dc1 : Int32) (h0 : Heap) (n0 : Nat) (Z0 : n0 ≤ h0.size) (F_o0_upFalls : Fld Z h0 o0 "com/example/bidfold/bidfold/Branching" "upFalls" "[D" (.ref upFalls_o0)) (F_o0_upCounts : Fld Z h0 o0 "com/example/bidfold/bidfold/Branching" "upCounts" "[I" (.ref upCounts_o0)) (V_upFalls_o0 : Ary tr Z h0 upFalls_o0 .double [(.double uf0), (.double uf1)]) (V_upCounts_o0 : Ary tr Z h0 upCounts_o0 .int [(.int uc0), (.int uc1)]) (F_o0_downFalls : Fld Z h0 o0 "com/example/bidfold/bidfold/Branching" "downFalls" "[D" (.ref downFalls_o0)) (F_o0_downCounts : Fld Z h0 o0 "com/example/bidfold/bidfold/Branching" "downCounts" "[I" (.ref downCounts_o0)) (V_downFalls_o0 : Ary tr Z h0 downFalls_o0 .double [(.double df0), (.double df1)]) (V_downCounts_o0 : Ary tr Z h0 downCounts_o0 .int [(.int dc0), (.int dc1)]) (hn13_1_10 : ((0 < uc1) → NoNaN64 (FP.ddiv uf1 (FP.i2d uc1)))) (hn15_1 : (NoNaN64 (FP.dsub (4607182418800017408 : UInt64) f2))) (hn16_1 : (NoNaN64 (FP.dmul (if 0 < uc1 then (FP.ddiv uf1 (FP.i2d uc1)) else (4607182418800017408 : UInt64)) (FP.dsub (4607182418800017408 : UInt64) f2)))) (hn13_1_27 : ((0 < dc1) → NoNaN64 (FP.ddiv df1 (FP.i2d dc1)))) (hn31_1 : (NoNaN64 (FP.dmul (if 0 < dc1 then (FP.ddiv df1 (FP.i2d dc1)) else (4607182418800017408 : UInt64)) f2))) :
    MetFree l (⟨"com/example/bidfold/bidfold/Branching", "leansIn", "(ID)Z"⟩ : MethodName) (head1 (Jvm.Cond.code (⟨"com/example/bidfold/bidfold/Branching", "leansIn", "(ID)Z"⟩ : MethodName) prog_13_method_4_code 4 (some .boolean) :: ws) ({ frames := 1, cells := 0, slots := 0, locals := 18 } : Room)) (fun a U => a = #[(.ref o0), (.int (1 : Int32)), (.double f2)] ∧ Z.Warmed39 U.vm ∧ U.heap = h0) (fun _ _ _ _ _ => True) (fun _ U o U' => ∃ v L, o = .returned v ∧ Q41 Z o0 f2 upFalls_o0 upCounts_o0 uf0 uf1 uc0 uc1 downFalls_o0 downCounts_o0 df0 df1 dc0 dc1 h0 n0 v U'.heap L ∧ FrameEnd U o U' L ({ frames := 1, cells := 0, slots := 0, locals := 18 } : Room).cells ({ frames := 1, cells := 0, slots := 0, locals := 18 } : Room).slots) := by
  refine MetFree.of_bodySF (plainFor_of_name pn_com_example_bidfold_bidfold_Branching) hisR ?_
  intro p e s m args below meth c s₁ Bd hml0 hP hK
  obtain ⟨rfl, hZ, hhp⟩ := hP
  have hx := Bd.exec
  have hby := Bd.bytes
  have hml : c.maxLocals = 4 := hml0
  have hown : s.vm.findClass "com/example/bidfold/bidfold/Branching" = some m.cls := findClass_of_methodNamed Bd.named
  have hnm := (name_of_methodNamed Bd.named Bd.method).1
  have X0 : Stand p l e ({ frames := 1, cells := 0, slots := 0, locals := 18 } : Room) s m #[(.ref o0), (.int (1 : Int32)), (.double f2)] below meth c s₁ [] 0 0 := Stand.of_body Bd
  have eH0 : s₁.heap = h0 := by rw [← hhp, Bd.state]; rfl
  have N0 := Fr.nil n0
  show Gt p.tables e below (fun o U' => ∃ v L, o = .returned v ∧ Q41 Z o0 f2 upFalls_o0 upCounts_o0 uf0 uf1 uc0 uc1 downFalls_o0 downCounts_o0 df0 df1 dc0 dc1 h0 n0 v U'.heap L ∧ FrameEnd s o U' L ({ frames := 1, cells := 0, slots := 0, locals := 18 } : Room).cells ({ frames := 1, cells := 0, slots := 0, locals := 18 } : Room).slots) _
  refine own_cast (ef41 m o0 f2) ?_
  refine own_aloadN X0 hx hby rfl rfl d4_0 (pc' := 1) rfl ?_
  refine own_getF X0 hx hby hZ hown (host := "") (Or.inl (hw _ (List.mem_of_getElem? (i := 19) rfl))) Via.refl eH0 F_o0_upFalls d4_1 (pc' := 4) rfl (fun T1 X1 eH1 => ?_)
  refine own_aloadN X1 hx hby rfl rfl d4_4 (pc' := 5) rfl ?_
  refine own_getF X1 hx hby hZ hown (host := "") (Or.inl (hw _ (List.mem_of_getElem? (i := 21) rfl))) Via.refl eH1 F_o0_upCounts d4_5 (pc' := 8) rfl (fun T2 X2 eH2 => ?_)
  refine own_iloadN X2 hx hby rfl d4_8 (pc' := 9) rfl ?_
  refine own_dconst1 X2 hx hby (v := (4607182418800017408 : UInt64)) (by decide) d4_9 (pc' := 10) rfl ?_
  refine own_static X2 hx hby hZ (y := (⟨"com/example/bidfold/bidfold/Branching", "fallPerUnit", "([D[IID)D"⟩ : MethodName)) (rest := []) hown (hw _ (List.mem_of_getElem? (i := 39) rfl)) (hw _ (List.mem_of_getElem? (i := 40) rfl)) (hw _ (List.mem_of_getElem? (i := 41) rfl)) (hw _ (List.mem_of_getElem? (i := 2) rfl)) (by decide) (rm51 l Z a0 hw [] upFalls_o0 upCounts_o0 (4607182418800017408 : UInt64) uf0 uf1 uc0 uc1 h0 n0 Z0 V_upFalls_o0 V_upCounts_o0 hn13_1_10) eH2 (by rw [hml]; rfl) (argsL := [(.ref upFalls_o0), (.ref upCounts_o0), (.int (1 : Int32)), (.double (4607182418800017408 : UInt64))]) rfl (lenOf pd_0 rfl) rfl d4_10 (pc' := 13) rfl (by decide) (W := 0) (Nat.le_of_eq rfl) (by decide) (by decide) (by decide) (fun T3 h3 Lc3 v3r X3 eH3 hQ3 => ?_)
  obtain ⟨rfl, Nq3, rfl⟩ := hQ3
  have N3 := Fr.app N0 Nq3
  refine own_dconst1 X3 hx hby (v := (4607182418800017408 : UInt64)) (by decide) d4_13 (pc' := 14) rfl ?_
  refine own_dloadN X3 hx hby rfl d4_14 (pc' := 15) rfl ?_
  refine own_dsub X3 hx hby hn15_1 rfl d4_15 (pc' := 16) rfl ?_
  refine own_dmul X3 hx hby hn16_1 rfl d4_16 (pc' := 17) rfl ?_
  refine own_aloadN X3 hx hby rfl rfl d4_17 (pc' := 18) rfl ?_
  refine own_getF X3 hx hby hZ hown (host := "") (Or.inl (hw _ (List.mem_of_getElem? (i := 14) rfl))) Via.refl eH3 F_o0_downFalls d4_18 (pc' := 21) rfl (fun T4 X4 eH4 => ?_)
  refine own_aloadN X4 hx hby rfl rfl d4_21 (pc' := 22) rfl ?_
  refine own_getF X4 hx hby hZ hown (host := "") (Or.inl (hw _ (List.mem_of_getElem? (i := 17) rfl))) Via.refl eH4 F_o0_downCounts d4_22 (pc' := 25) rfl (fun T5 X5 eH5 => ?_)
  refine own_iloadN X5 hx hby rfl d4_25 (pc' := 26) rfl ?_
  refine own_dconst1 X5 hx hby (v := (4607182418800017408 : UInt64)) (by decide) d4_26 (pc' := 27) rfl ?_
  refine own_static X5 hx hby hZ (y := (⟨"com/example/bidfold/bidfold/Branching", "fallPerUnit", "([D[IID)D"⟩ : MethodName)) (rest := [(.double (FP.dmul (if 0 < uc1 then (FP.ddiv uf1 (FP.i2d uc1)) else (4607182418800017408 : UInt64)) (FP.dsub (4607182418800017408 : UInt64) f2)))]) hown (hw _ (List.mem_of_getElem? (i := 39) rfl)) (hw _ (List.mem_of_getElem? (i := 40) rfl)) (hw _ (List.mem_of_getElem? (i := 41) rfl)) (hw _ (List.mem_of_getElem? (i := 2) rfl)) (by decide) (rm51 l Z a0 hw [] downFalls_o0 downCounts_o0 (4607182418800017408 : UInt64) df0 df1 dc0 dc1 h0 n0 Z0 V_downFalls_o0 V_downCounts_o0 hn13_1_27) eH5 (by rw [hml]; rfl) (argsL := [(.ref downFalls_o0), (.ref downCounts_o0), (.int (1 : Int32)), (.double (4607182418800017408 : UInt64))]) rfl (lenOf pd_0 rfl) rfl d4_27 (pc' := 30) rfl (by decide) (W := 2) (Nat.le_of_eq rfl) (by decide) (by decide) (by decide) (fun T6 h6 Lc6 v6r X6 eH6 hQ6 => ?_)
  obtain ⟨rfl, Nq6, rfl⟩ := hQ6
  have N6 := Fr.app N3 Nq6
  refine own_dloadN X6 hx hby rfl d4_30 (pc' := 31) rfl ?_
  refine own_dmul X6 hx hby hn31_1 rfl d4_31 (pc' := 32) rfl ?_
  refine own_dcmp X6 hx hby rfl d4_32 (pc' := 33) rfl ?_
  by_cases hc7 : dle (FP.dmul (if 0 < uc1 then (FP.ddiv uf1 (FP.i2d uc1)) else (4607182418800017408 : UInt64)) (FP.dsub (4607182418800017408 : UInt64) f2)) (FP.dmul (if 0 < dc1 then (FP.ddiv df1 (FP.i2d dc1)) else (4607182418800017408 : UInt64)) f2)
  · refine own_ifF X6 hx hby d4_33 (own_dg_gt_p hc7) (pc' := 36) rfl ?_
    refine own_iconst X6 hx hby (v := (1 : Int32)) (by decide) d4_36 (pc' := 37) rfl ?_
    refine own_goto X6 hx hby d4_37 (by decide) (pc' := 41) (by decide) ?_
    exact own_retZ X6 hx hby Bd.notSynchronized Bd.returns (Or.inr rfl) d4_41 (by decide) (by decide) eH6 ⟨(by rw [if_pos hc7]), N6, rfl⟩
  · refine own_ifT X6 hx hby d4_33 (own_dg_gt_n hc7) (by decide) (pc' := 40) (by decide) ?_
    refine own_iconst X6 hx hby (v := (0 : Int32)) (by decide) d4_40 (pc' := 41) rfl ?_
    exact own_retZ X6 hx hby Bd.notSynchronized Bd.returns (Or.inl rfl) d4_41 (by decide) (by decide) eH6 ⟨(by rw [if_neg hc7]), N6, rfl⟩
theorem ef0 (m : MethodId) (x0 : Int32) (x1 : Int32) (x2 : Int32) (x3 : Int64) : entryFrame m #[(.int x0), (.int x1), (.int x2), (.long x3)] maxLocals = mkF m 0 #[.val (.int x0), .val (.int x1), .val (.int x2), .val (.long x3), .second, .unset, .unset, .unset, .unset, .unset, .unset, .unset, .unset, .unset, .unset, .unset, .unset, .unset, .unset, .unset, .unset, .unset, .unset, .unset, .unset, .unset, .unset, .unset, .unset, .unset, .unset] [] := by first | (simp [entryFrame, mkF, argsToLocals, Value.category, maxLocals]; done) | rfl
def Q0 (Z : State) (p0 : Int32) (p1 : Int32) (p2 : Int32) (p3 : Int64) (h0 : Heap) (n0 : Nat) (v : Option Value) (h : Heap) (L : List Loc) : Prop := v = some (.int 1) ∧ Fr n0 L
set_option maxRecDepth 65536 in
set_option maxHeartbeats 40000000 in
theorem rm0 (l : Launch) (Z : State) (a0 : Array Value) (hw : ∀ d ∈ tables_1, d.before a0 Z = true) (ws : List Jvm.Cond) (p0 : Int32) (p1 : Int32) (p2 : Int32) (p3 : Int64) (h0 : Heap) (n0 : Nat) (Z0 : n0 ≤ h0.size) :
    MetFree l x (head1 (Jvm.Cond.code x code maxLocals ret :: ws) room_1) (fun a U => a = #[(.int p0), (.int p1), (.int p2), (.long p3)] ∧ Z.Warmed39 U.vm ∧ U.heap = h0) (fun _ _ _ _ _ => True) (fun _ U o U' => ∃ v L, o = .returned v ∧ Q0 Z p0 p1 p2 p3 h0 n0 v U'.heap L ∧ FrameEnd U o U' L 24 128) := by
  refine MetFree.of_bodySF (plainFor_of_name pn_com_example_bidfold_bidfold_BranchingLeansInPinLaw) hisR ?_
  intro p e s m args below meth c s₁ Bd hml0 hP hK
  obtain ⟨rfl, hZ, hhp⟩ := hP
  have hx := Bd.exec
  have hby := Bd.bytes
  have hml : c.maxLocals = 31 := hml0
  have hown : s.vm.findClass "com/example/bidfold/bidfold/BranchingLeansInPinLaw" = some m.cls := findClass_of_methodNamed Bd.named
  have hnm := (name_of_methodNamed Bd.named Bd.method).1
  have X0 : Stand p l e room_1 s m #[(.int p0), (.int p1), (.int p2), (.long p3)] below meth c s₁ [] 0 0 := Stand.of_body Bd
  have eH0 : s₁.heap = h0 := by rw [← hhp, Bd.state]; rfl
  have N0 := Fr.nil n0
  show Gt p.tables e below (fun o U' => ∃ v L, o = .returned v ∧ Q0 Z p0 p1 p2 p3 h0 n0 v U'.heap L ∧ FrameEnd s o U' L 24 128) _
  refine own_cast (ef0 m p0 p1 p2 p3) ?_
  refine own_iloadN X0 hx hby rfl at_0 (pc' := 1) rfl ?_
  refine own_iconst X0 hx hby (v := (1 : Int32)) (by decide) at_1 (pc' := 2) rfl ?_
  refine own_iand X0 hx hby rfl at_2 (pc' := 3) rfl ?_
  generalize q_n1 : (p0 &&& (1 : Int32)) = n1
  refine own_istore X0 hx hby (L' := #[.val (.int p0), .val (.int p1), .val (.int p2), .val (.long p3), .second, .val (.int n1), .unset, .unset, .unset, .unset, .unset, .unset, .unset, .unset, .unset, .unset, .unset, .unset, .unset, .unset, .unset, .unset, .unset, .unset, .unset, .unset, .unset, .unset, .unset, .unset, .unset]) rfl at_3 (pc' := 5) rfl ?_
  refine own_iconst X0 hx hby (v := (1 : Int32)) (by decide) at_5 (pc' := 6) rfl ?_
  refine own_iload X0 hx hby rfl at_6 (pc' := 8) rfl ?_
  refine own_isub X0 hx hby rfl at_8 (pc' := 9) rfl ?_
  generalize q_n2 : ((1 : Int32) - n1) = n2
  refine own_istore X0 hx hby (L' := #[.val (.int p0), .val (.int p1), .val (.int p2), .val (.long p3), .second, .val (.int n1), .val (.int n2), .unset, .unset, .unset, .unset, .unset, .unset, .unset, .unset, .unset, .unset, .unset, .unset, .unset, .unset, .unset, .unset, .unset, .unset, .unset, .unset, .unset, .unset, .unset, .unset]) rfl at_9 (pc' := 11) rfl ?_
  refine own_iloadN X0 hx hby rfl at_11 (pc' := 12) rfl ?_
  refine own_iconst X0 hx hby (v := (1 : Int32)) (by decide) at_12 (pc' := 13) rfl ?_
  refine own_iushr X0 hx hby rfl at_13 (pc' := 14) rfl ?_
  refine own_iconst X0 hx hby (v := (3 : Int32)) (by decide) at_14 (pc' := 15) rfl ?_
  refine own_iand X0 hx hby rfl at_15 (pc' := 16) rfl ?_
  refine own_iconst X0 hx hby (v := (3 : Int32)) (by decide) at_16 (pc' := 17) rfl ?_
  refine own_irem X0 hx hby (by decide) rfl at_17 (pc' := 18) rfl ?_
  generalize q_n3 : ((((p0.toUInt32 >>> ((1 : Int32) &&& 31).toUInt32).toInt32) &&& (3 : Int32)) % (3 : Int32)) = n3
  refine own_istore X0 hx hby (L' := #[.val (.int p0), .val (.int p1), .val (.int p2), .val (.long p3), .second, .val (.int n1), .val (.int n2), .val (.int n3), .unset, .unset, .unset, .unset, .unset, .unset, .unset, .unset, .unset, .unset, .unset, .unset, .unset, .unset, .unset, .unset, .unset, .unset, .unset, .unset, .unset, .unset, .unset]) rfl at_18 (pc' := 20) rfl ?_
  refine own_iloadN X0 hx hby rfl at_20 (pc' := 21) rfl ?_
  refine own_iconst X0 hx hby (v := (3 : Int32)) (by decide) at_21 (pc' := 22) rfl ?_
  refine own_iushr X0 hx hby rfl at_22 (pc' := 23) rfl ?_
  refine own_iconst X0 hx hby (v := (3 : Int32)) (by decide) at_23 (pc' := 24) rfl ?_
  refine own_iand X0 hx hby rfl at_24 (pc' := 25) rfl ?_
  refine own_iconst X0 hx hby (v := (3 : Int32)) (by decide) at_25 (pc' := 26) rfl ?_
  refine own_irem X0 hx hby (by decide) rfl at_26 (pc' := 27) rfl ?_
  generalize q_n4 : ((((p0.toUInt32 >>> ((3 : Int32) &&& 31).toUInt32).toInt32) &&& (3 : Int32)) % (3 : Int32)) = n4
  refine own_istore X0 hx hby (L' := #[.val (.int p0), .val (.int p1), .val (.int p2), .val (.long p3), .second, .val (.int n1), .val (.int n2), .val (.int n3), .val (.int n4), .unset, .unset, .unset, .unset, .unset, .unset, .unset, .unset, .unset, .unset, .unset, .unset, .unset, .unset, .unset, .unset, .unset, .unset, .unset, .unset, .unset, .unset]) rfl at_27 (pc' := 29) rfl ?_
  refine own_iloadN X0 hx hby rfl at_29 (pc' := 30) rfl ?_
  refine own_iconst X0 hx hby (v := (5 : Int32)) (by decide) at_30 (pc' := 31) rfl ?_
  refine own_iushr X0 hx hby rfl at_31 (pc' := 32) rfl ?_
  refine own_bipush X0 hx hby (v := (15 : Int32)) (by decide) at_32 (pc' := 34) rfl ?_
  refine own_iand X0 hx hby rfl at_34 (pc' := 35) rfl ?_
  refine own_bipush X0 hx hby (v := (9 : Int32)) (by decide) at_35 (pc' := 37) rfl ?_
  refine own_irem X0 hx hby (by decide) rfl at_37 (pc' := 38) rfl ?_
  generalize q_n5 : ((((p0.toUInt32 >>> ((5 : Int32) &&& 31).toUInt32).toInt32) &&& (15 : Int32)) % (9 : Int32)) = n5
  refine own_istore X0 hx hby (L' := #[.val (.int p0), .val (.int p1), .val (.int p2), .val (.long p3), .second, .val (.int n1), .val (.int n2), .val (.int n3), .val (.int n4), .val (.int n5), .unset, .unset, .unset, .unset, .unset, .unset, .unset, .unset, .unset, .unset, .unset, .unset, .unset, .unset, .unset, .unset, .unset, .unset, .unset, .unset, .unset]) rfl at_38 (pc' := 40) rfl ?_
  refine own_iloadN X0 hx hby rfl at_40 (pc' := 41) rfl ?_
  refine own_bipush X0 hx hby (v := (9 : Int32)) (by decide) at_41 (pc' := 43) rfl ?_
  refine own_iushr X0 hx hby rfl at_43 (pc' := 44) rfl ?_
  refine own_iconst X0 hx hby (v := (3 : Int32)) (by decide) at_44 (pc' := 45) rfl ?_
  refine own_iand X0 hx hby rfl at_45 (pc' := 46) rfl ?_
  refine own_iconst X0 hx hby (v := (3 : Int32)) (by decide) at_46 (pc' := 47) rfl ?_
  refine own_irem X0 hx hby (by decide) rfl at_47 (pc' := 48) rfl ?_
  refine own_iconst X0 hx hby (v := (1 : Int32)) (by decide) at_48 (pc' := 49) rfl ?_
  refine own_iadd X0 hx hby rfl at_49 (pc' := 50) rfl ?_
  generalize q_n6 : (((((p0.toUInt32 >>> ((9 : Int32) &&& 31).toUInt32).toInt32) &&& (3 : Int32)) % (3 : Int32)) + (1 : Int32)) = n6
  refine own_istore X0 hx hby (L' := #[.val (.int p0), .val (.int p1), .val (.int p2), .val (.long p3), .second, .val (.int n1), .val (.int n2), .val (.int n3), .val (.int n4), .val (.int n5), .val (.int n6), .unset, .unset, .unset, .unset, .unset, .unset, .unset, .unset, .unset, .unset, .unset, .unset, .unset, .unset, .unset, .unset, .unset, .unset, .unset, .unset]) rfl at_50 (pc' := 52) rfl ?_
  refine own_iloadN X0 hx hby rfl at_52 (pc' := 53) rfl ?_
  refine own_bipush X0 hx hby (v := (11 : Int32)) (by decide) at_53 (pc' := 55) rfl ?_
  refine own_iushr X0 hx hby rfl at_55 (pc' := 56) rfl ?_
  refine own_iconst X0 hx hby (v := (3 : Int32)) (by decide) at_56 (pc' := 57) rfl ?_
  refine own_iand X0 hx hby rfl at_57 (pc' := 58) rfl ?_
  refine own_iconst X0 hx hby (v := (3 : Int32)) (by decide) at_58 (pc' := 59) rfl ?_
  refine own_irem X0 hx hby (by decide) rfl at_59 (pc' := 60) rfl ?_
  refine own_iconst X0 hx hby (v := (1 : Int32)) (by decide) at_60 (pc' := 61) rfl ?_
  refine own_iadd X0 hx hby rfl at_61 (pc' := 62) rfl ?_
  generalize q_n7 : (((((p0.toUInt32 >>> ((11 : Int32) &&& 31).toUInt32).toInt32) &&& (3 : Int32)) % (3 : Int32)) + (1 : Int32)) = n7
  refine own_istore X0 hx hby (L' := #[.val (.int p0), .val (.int p1), .val (.int p2), .val (.long p3), .second, .val (.int n1), .val (.int n2), .val (.int n3), .val (.int n4), .val (.int n5), .val (.int n6), .val (.int n7), .unset, .unset, .unset, .unset, .unset, .unset, .unset, .unset, .unset, .unset, .unset, .unset, .unset, .unset, .unset, .unset, .unset, .unset, .unset]) rfl at_62 (pc' := 64) rfl ?_
  refine own_iloadN X0 hx hby rfl at_64 (pc' := 65) rfl ?_
  refine own_bipush X0 hx hby (v := (13 : Int32)) (by decide) at_65 (pc' := 67) rfl ?_
  refine own_iushr X0 hx hby rfl at_67 (pc' := 68) rfl ?_
  refine own_iconst X0 hx hby (v := (3 : Int32)) (by decide) at_68 (pc' := 69) rfl ?_
  refine own_iand X0 hx hby rfl at_69 (pc' := 70) rfl ?_
  refine own_iconst X0 hx hby (v := (3 : Int32)) (by decide) at_70 (pc' := 71) rfl ?_
  refine own_irem X0 hx hby (by decide) rfl at_71 (pc' := 72) rfl ?_
  refine own_iconst X0 hx hby (v := (1 : Int32)) (by decide) at_72 (pc' := 73) rfl ?_
  refine own_iadd X0 hx hby rfl at_73 (pc' := 74) rfl ?_
  generalize q_n8 : (((((p0.toUInt32 >>> ((13 : Int32) &&& 31).toUInt32).toInt32) &&& (3 : Int32)) % (3 : Int32)) + (1 : Int32)) = n8
  refine own_istore X0 hx hby (L' := #[.val (.int p0), .val (.int p1), .val (.int p2), .val (.long p3), .second, .val (.int n1), .val (.int n2), .val (.int n3), .val (.int n4), .val (.int n5), .val (.int n6), .val (.int n7), .val (.int n8), .unset, .unset, .unset, .unset, .unset, .unset, .unset, .unset, .unset, .unset, .unset, .unset, .unset, .unset, .unset, .unset, .unset, .unset]) rfl at_74 (pc' := 76) rfl ?_
  refine own_iloadN X0 hx hby rfl at_76 (pc' := 77) rfl ?_
  refine own_bipush X0 hx hby (v := (15 : Int32)) (by decide) at_77 (pc' := 79) rfl ?_
  refine own_iushr X0 hx hby rfl at_79 (pc' := 80) rfl ?_
  refine own_iconst X0 hx hby (v := (3 : Int32)) (by decide) at_80 (pc' := 81) rfl ?_
  refine own_iand X0 hx hby rfl at_81 (pc' := 82) rfl ?_
  refine own_iconst X0 hx hby (v := (3 : Int32)) (by decide) at_82 (pc' := 83) rfl ?_
  refine own_irem X0 hx hby (by decide) rfl at_83 (pc' := 84) rfl ?_
  refine own_iconst X0 hx hby (v := (1 : Int32)) (by decide) at_84 (pc' := 85) rfl ?_
  refine own_iadd X0 hx hby rfl at_85 (pc' := 86) rfl ?_
  generalize q_n9 : (((((p0.toUInt32 >>> ((15 : Int32) &&& 31).toUInt32).toInt32) &&& (3 : Int32)) % (3 : Int32)) + (1 : Int32)) = n9
  refine own_istore X0 hx hby (L' := #[.val (.int p0), .val (.int p1), .val (.int p2), .val (.long p3), .second, .val (.int n1), .val (.int n2), .val (.int n3), .val (.int n4), .val (.int n5), .val (.int n6), .val (.int n7), .val (.int n8), .val (.int n9), .unset, .unset, .unset, .unset, .unset, .unset, .unset, .unset, .unset, .unset, .unset, .unset, .unset, .unset, .unset, .unset, .unset]) rfl at_86 (pc' := 88) rfl ?_
  refine own_iloadN X0 hx hby rfl at_88 (pc' := 89) rfl ?_
  refine own_sipush X0 hx hby (v := (1023 : Int32)) (by decide) at_89 (pc' := 92) rfl ?_
  refine own_iand X0 hx hby rfl at_92 (pc' := 93) rfl ?_
  generalize q_n10 : (p1 &&& (1023 : Int32)) = n10
  refine own_istore X0 hx hby (L' := #[.val (.int p0), .val (.int p1), .val (.int p2), .val (.long p3), .second, .val (.int n1), .val (.int n2), .val (.int n3), .val (.int n4), .val (.int n5), .val (.int n6), .val (.int n7), .val (.int n8), .val (.int n9), .val (.int n10), .unset, .unset, .unset, .unset, .unset, .unset, .unset, .unset, .unset, .unset, .unset, .unset, .unset, .unset, .unset, .unset]) rfl at_93 (pc' := 95) rfl ?_
  refine own_iloadN X0 hx hby rfl at_95 (pc' := 96) rfl ?_
  refine own_bipush X0 hx hby (v := (10 : Int32)) (by decide) at_96 (pc' := 98) rfl ?_
  refine own_iushr X0 hx hby rfl at_98 (pc' := 99) rfl ?_
  refine own_sipush X0 hx hby (v := (1023 : Int32)) (by decide) at_99 (pc' := 102) rfl ?_
  refine own_iand X0 hx hby rfl at_102 (pc' := 103) rfl ?_
  generalize q_n11 : (((p1.toUInt32 >>> ((10 : Int32) &&& 31).toUInt32).toInt32) &&& (1023 : Int32)) = n11
  refine own_istore X0 hx hby (L' := #[.val (.int p0), .val (.int p1), .val (.int p2), .val (.long p3), .second, .val (.int n1), .val (.int n2), .val (.int n3), .val (.int n4), .val (.int n5), .val (.int n6), .val (.int n7), .val (.int n8), .val (.int n9), .val (.int n10), .val (.int n11), .unset, .unset, .unset, .unset, .unset, .unset, .unset, .unset, .unset, .unset, .unset, .unset, .unset, .unset, .unset]) rfl at_103 (pc' := 105) rfl ?_
  refine own_iloadN X0 hx hby rfl at_105 (pc' := 106) rfl ?_
  refine own_bipush X0 hx hby (v := (20 : Int32)) (by decide) at_106 (pc' := 108) rfl ?_
  refine own_iushr X0 hx hby rfl at_108 (pc' := 109) rfl ?_
  refine own_sipush X0 hx hby (v := (1023 : Int32)) (by decide) at_109 (pc' := 112) rfl ?_
  refine own_iand X0 hx hby rfl at_112 (pc' := 113) rfl ?_
  generalize q_n12 : (((p1.toUInt32 >>> ((20 : Int32) &&& 31).toUInt32).toInt32) &&& (1023 : Int32)) = n12
  refine own_istore X0 hx hby (L' := #[.val (.int p0), .val (.int p1), .val (.int p2), .val (.long p3), .second, .val (.int n1), .val (.int n2), .val (.int n3), .val (.int n4), .val (.int n5), .val (.int n6), .val (.int n7), .val (.int n8), .val (.int n9), .val (.int n10), .val (.int n11), .val (.int n12), .unset, .unset, .unset, .unset, .unset, .unset, .unset, .unset, .unset, .unset, .unset, .unset, .unset, .unset]) rfl at_113 (pc' := 115) rfl ?_
  refine own_iloadN X0 hx hby rfl at_115 (pc' := 116) rfl ?_
  refine own_sipush X0 hx hby (v := (1023 : Int32)) (by decide) at_116 (pc' := 119) rfl ?_
  refine own_iand X0 hx hby rfl at_119 (pc' := 120) rfl ?_
  generalize q_n13 : (p2 &&& (1023 : Int32)) = n13
  refine own_istore X0 hx hby (L' := #[.val (.int p0), .val (.int p1), .val (.int p2), .val (.long p3), .second, .val (.int n1), .val (.int n2), .val (.int n3), .val (.int n4), .val (.int n5), .val (.int n6), .val (.int n7), .val (.int n8), .val (.int n9), .val (.int n10), .val (.int n11), .val (.int n12), .val (.int n13), .unset, .unset, .unset, .unset, .unset, .unset, .unset, .unset, .unset, .unset, .unset, .unset, .unset]) rfl at_120 (pc' := 122) rfl ?_
  refine own_iloadN X0 hx hby rfl at_122 (pc' := 123) rfl ?_
  refine own_bipush X0 hx hby (v := (10 : Int32)) (by decide) at_123 (pc' := 125) rfl ?_
  refine own_iushr X0 hx hby rfl at_125 (pc' := 126) rfl ?_
  refine own_sipush X0 hx hby (v := (1023 : Int32)) (by decide) at_126 (pc' := 129) rfl ?_
  refine own_iand X0 hx hby rfl at_129 (pc' := 130) rfl ?_
  generalize q_n14 : (((p2.toUInt32 >>> ((10 : Int32) &&& 31).toUInt32).toInt32) &&& (1023 : Int32)) = n14
  refine own_istore X0 hx hby (L' := #[.val (.int p0), .val (.int p1), .val (.int p2), .val (.long p3), .second, .val (.int n1), .val (.int n2), .val (.int n3), .val (.int n4), .val (.int n5), .val (.int n6), .val (.int n7), .val (.int n8), .val (.int n9), .val (.int n10), .val (.int n11), .val (.int n12), .val (.int n13), .val (.int n14), .unset, .unset, .unset, .unset, .unset, .unset, .unset, .unset, .unset, .unset, .unset, .unset]) rfl at_130 (pc' := 132) rfl ?_
  refine own_iloadN X0 hx hby rfl at_132 (pc' := 133) rfl ?_
  refine own_bipush X0 hx hby (v := (20 : Int32)) (by decide) at_133 (pc' := 135) rfl ?_
  refine own_iushr X0 hx hby rfl at_135 (pc' := 136) rfl ?_
  refine own_sipush X0 hx hby (v := (1023 : Int32)) (by decide) at_136 (pc' := 139) rfl ?_
  refine own_iand X0 hx hby rfl at_139 (pc' := 140) rfl ?_
  generalize q_n15 : (((p2.toUInt32 >>> ((20 : Int32) &&& 31).toUInt32).toInt32) &&& (1023 : Int32)) = n15
  refine own_istore X0 hx hby (L' := #[.val (.int p0), .val (.int p1), .val (.int p2), .val (.long p3), .second, .val (.int n1), .val (.int n2), .val (.int n3), .val (.int n4), .val (.int n5), .val (.int n6), .val (.int n7), .val (.int n8), .val (.int n9), .val (.int n10), .val (.int n11), .val (.int n12), .val (.int n13), .val (.int n14), .val (.int n15), .unset, .unset, .unset, .unset, .unset, .unset, .unset, .unset, .unset, .unset, .unset]) rfl at_140 (pc' := 142) rfl ?_
  refine own_newO X0 hx hby hZ hown (hw _ (List.mem_of_getElem? (i := 0) rfl)) (hw _ (List.mem_of_getElem? (i := 1) rfl)) (hw _ (List.mem_of_getElem? (i := 2) rfl)) eH0 at_142 (pc' := 145) rfl (by decide) (by decide) (fun T16 h16 b16 X16 eH16 E16 g16 E_b16 D16 => ?_)
  have g_b16 : n0 ≤ b16 := g16 ▸ Z0
  replace Z0 := Nat.le_trans Z0 E16.1
  have F_b16_count : Fld Z h16 b16 "com/example/bidfold/bidfold/Branching" "count" "I" (.int (0 : Int32)) := D16 (Or.inr (hw _ (List.mem_of_getElem? (i := 10) rfl))) (ty := .int) (by decide)
  have F_b16_least : Fld Z h16 b16 "com/example/bidfold/bidfold/Branching" "least" "J" (.long (0 : Int64)) := D16 (Or.inr (hw _ (List.mem_of_getElem? (i := 12) rfl))) (ty := .long) (by decide)
  have F_b16_downFalls : Fld Z h16 b16 "com/example/bidfold/bidfold/Branching" "downFalls" "[D" .null := D16 (Or.inr (hw _ (List.mem_of_getElem? (i := 15) rfl))) (ty := (.array .double)) (by decide)
  have F_b16_downCounts : Fld Z h16 b16 "com/example/bidfold/bidfold/Branching" "downCounts" "[I" .null := D16 (Or.inr (hw _ (List.mem_of_getElem? (i := 18) rfl))) (ty := (.array .int)) (by decide)
  have F_b16_upFalls : Fld Z h16 b16 "com/example/bidfold/bidfold/Branching" "upFalls" "[D" .null := D16 (Or.inr (hw _ (List.mem_of_getElem? (i := 20) rfl))) (ty := (.array .double)) (by decide)
  have F_b16_upCounts : Fld Z h16 b16 "com/example/bidfold/bidfold/Branching" "upCounts" "[I" .null := D16 (Or.inr (hw _ (List.mem_of_getElem? (i := 22) rfl))) (ty := (.array .int)) (by decide)
  have F_b16_branchable : Fld Z h16 b16 "com/example/bidfold/bidfold/Branching" "branchable" "[I" .null := D16 (Or.inr (hw _ (List.mem_of_getElem? (i := 24) rfl))) (ty := (.array .int)) (by decide)
  as_aux_lemma =>
    refine own_dup X16 hx hby rfl at_145 (pc' := 146) rfl ?_
    refine own_iconst X16 hx hby (v := (2 : Int32)) (by decide) at_146 (pc' := 147) rfl ?_
    refine own_lloadN X16 hx hby rfl at_147 (pc' := 148) rfl ?_
    refine own_special X16 hx hby hZ (y := (⟨"com/example/bidfold/bidfold/Branching", "<init>", "(IJ)V"⟩ : MethodName)) (rest := [(.ref b16)]) rfl hown (hw _ (List.mem_of_getElem? (i := 3) rfl)) (hw _ (List.mem_of_getElem? (i := 4) rfl)) rfl (hw _ (List.mem_of_getElem? (i := 5) rfl)) (hw _ (List.mem_of_getElem? (i := 2) rfl)) (by decide) (rm1 l Z a0 hw [] b16 p3 (0 : Int32) (0 : Int64) .null .null .null .null .null h16 n0 Z0 F_b16_count F_b16_least F_b16_downFalls F_b16_downCounts F_b16_upFalls F_b16_upCounts F_b16_branchable E_b16 g_b16) eH16 (by rw [hml]; rfl) (a := b16) (argsL := [(.int (2 : Int32)), (.long p3)]) rfl (lenOf pd_1 rfl) rfl at_148 (pc' := 151) rfl (by decide) (W := 1) (Nat.le_of_eq rfl) (by decide) (by decide) (by decide) (fun T17 h17 Lc17 v17r X17 eH17 hQ17 => ?_)
    obtain ⟨b4_17, b6_17, b8_17, b10_17, rfl, Nq17, Kq17, gq17_0, gq17_1, gq17_2, gq17_3, gq17_4, gq17_5, gq17_6, gq17_7, gq17_8, gq17_9, gq17_10, gq17_11, gq17_12, gq17_13, gq17_14, gq17_15, gq17_16, gq17_17, gq17_18, gq17_19, gq17_20, gq17_21, gq17_22⟩ := hQ17
    have N17 := Fr.app N0 Nq17
    have g_b4_17 : n0 ≤ b4_17 := Nat.le_trans Z0 gq17_0
    have ne_b16_b4_17 : b16 ≠ b4_17 := Nat.ne_of_lt (Nat.lt_of_lt_of_le E_b16.lt gq17_0)
    have g_b6_17 : n0 ≤ b6_17 := Nat.le_trans Z0 gq17_1
    have ne_b16_b6_17 : b16 ≠ b6_17 := Nat.ne_of_lt (Nat.lt_of_lt_of_le E_b16.lt gq17_1)
    have g_b8_17 : n0 ≤ b8_17 := Nat.le_trans Z0 gq17_2
    have ne_b16_b8_17 : b16 ≠ b8_17 := Nat.ne_of_lt (Nat.lt_of_lt_of_le E_b16.lt gq17_2)
    have g_b10_17 : n0 ≤ b10_17 := Nat.le_trans Z0 gq17_3
    have ne_b16_b10_17 : b16 ≠ b10_17 := Nat.ne_of_lt (Nat.lt_of_lt_of_le E_b16.lt gq17_3)
    replace E_b16 := E_b16.keep Kq17
    have ne_b4_17_b6_17 := gq17_4
    have ne_b4_17_b8_17 := gq17_5
    have ne_b4_17_b10_17 := gq17_6
    have ne_b6_17_b8_17 := gq17_7
    have ne_b6_17_b10_17 := gq17_8
    have ne_b8_17_b10_17 := gq17_9
    have E_b16 := gq17_10
    have F_b16_downFalls := gq17_11
    have F_b16_downCounts := gq17_12
    have F_b16_upFalls := gq17_13
    have F_b16_upCounts := gq17_14
    have E_b4_17 := gq17_15
    have V_b4_17 := gq17_16
    have E_b6_17 := gq17_17
    have V_b6_17 := gq17_18
    have E_b8_17 := gq17_19
    have V_b8_17 := gq17_20
    have E_b10_17 := gq17_21
    have V_b10_17 := gq17_22
    replace Z0 := Nat.le_trans Z0 Kq17.1
    refine own_astore X17 hx hby rfl (L' := #[.val (.int p0), .val (.int p1), .val (.int p2), .val (.long p3), .second, .val (.int n1), .val (.int n2), .val (.int n3), .val (.int n4), .val (.int n5), .val (.int n6), .val (.int n7), .val (.int n8), .val (.int n9), .val (.int n10), .val (.int n11), .val (.int n12), .val (.int n13), .val (.int n14), .val (.int n15), .val (.ref b16), .unset, .unset, .unset, .unset, .unset, .unset, .unset, .unset, .unset, .unset]) rfl at_151 (pc' := 153) rfl ?_
    rcases own_bit q_n1 with rfl | rfl
    · obtain rfl : n2 = (1 : Int32) := by rw [← q_n2]; decide
      refine own_aload X17 hx hby rfl rfl at_153 (pc' := 155) rfl ?_
      refine own_iload X17 hx hby rfl at_155 (pc' := 157) rfl ?_
      refine own_iconst X17 hx hby (v := (1 : Int32)) (by decide) at_157 (pc' := 158) rfl ?_
      refine own_ldc2D X17 hx hby hZ hown (hw _ (List.mem_of_getElem? (i := 25) rfl)) at_158 (pc' := 161) rfl ?_
      refine own_iconst X17 hx hby (v := (3 : Int32)) (by decide) at_161 (pc' := 162) rfl ?_
      refine own_iload X17 hx hby rfl at_162 (pc' := 164) rfl ?_
      refine own_imul X17 hx hby rfl at_164 (pc' := 165) rfl ?_
      obtain ⟨v18, q_v18⟩ : ∃ z : UInt64, (FP.i2d ((3 : Int32) * n14)) = z := ⟨_, rfl⟩
      have D_v18 : Dy v18 (3 * n14.toInt) 0 := q_v18 ▸ (dy_i2d ((3 : Int32) * n14)).to (own_3k (own_k10 q_n14))
      refine own_i2d X17 hx hby q_v18 at_165 (pc' := 166) rfl ?_
      have LU166g := own_g own_half ⟨by decide, by decide⟩
      have LU166 := own_up own_half ⟨by decide, by decide⟩ D_v18 (own_k10 q_n14) own_d0 own_b0
      refine own_virtual X17 hx hby hZ (y := (⟨"com/example/bidfold/bidfold/Branching", "learn", "(IZDD)V"⟩ : MethodName)) (y' := (⟨"com/example/bidfold/bidfold/Branching", "learn", "(IZDD)V"⟩ : MethodName)) (C := "com/example/bidfold/bidfold/Branching") (rest := []) hown (hw _ (List.mem_of_getElem? (i := 26) rfl)) (hw _ (List.mem_of_getElem? (i := 27) rfl)) (notFace_of_selects (args := #[]) (mvT hZ (hw _ (List.mem_of_getElem? (i := 29) rfl)))) (hw _ (List.mem_of_getElem? (i := 29) rfl)) (hw _ (List.mem_of_getElem? (i := 28) rfl)) (hw _ (List.mem_of_getElem? (i := 30) rfl)) (hw _ (List.mem_of_getElem? (i := 2) rfl)) (by decide) (rm311 l Z a0 hw [] b16 (4602678819172646912 : UInt64) v18 b8_17 b10_17 (0 : UInt64) (0 : UInt64) (0 : Int32) (0 : Int32) h17 n0 Z0 F_b16_upFalls F_b16_upCounts V_b8_17 V_b10_17 LU166g.1 LU166g.2 LU166.1 LU166.2.1 LU166.2.2.1 g_b8_17 ne_b16_b8_17 (Ne.symm ne_b8_17_b10_17) g_b10_17 ne_b16_b10_17) eH17 (by rw [hml]; rfl) (a := b16) E_b16 (argsL := [(.int (1 : Int32)), (.int (1 : Int32)), (.double (4602678819172646912 : UInt64)), (.double v18)]) rfl (lenOf pd_2 rfl) rfl at_166 (pc' := 169) rfl (by decide) (W := 0) (Nat.le_of_eq rfl) (by decide) (by decide) (by decide) (fun T19 h19 Lc19 v19r X19 eH19 hQ19 => ?_)
      obtain ⟨rfl, Nq19, Kq19, gq19_0, gq19_1⟩ := hQ19
      have N19 := Fr.app N17 Nq19
      replace E_b16 := E_b16.keep Kq19
      replace F_b16_downFalls := F_b16_downFalls.keep Kq19 (ninS ne_b16_b8_17 (ninS ne_b16_b10_17 nin0))
      replace F_b16_downCounts := F_b16_downCounts.keep Kq19 (ninS ne_b16_b8_17 (ninS ne_b16_b10_17 nin0))
      replace F_b16_upFalls := F_b16_upFalls.keep Kq19 (ninS ne_b16_b8_17 (ninS ne_b16_b10_17 nin0))
      replace F_b16_upCounts := F_b16_upCounts.keep Kq19 (ninS ne_b16_b8_17 (ninS ne_b16_b10_17 nin0))
      replace E_b4_17 := E_b4_17.keep Kq19
      replace V_b4_17 := V_b4_17.keep Kq19 (ninS ne_b4_17_b8_17 (ninS ne_b4_17_b10_17 nin0))
      replace E_b6_17 := E_b6_17.keep Kq19
      replace V_b6_17 := V_b6_17.keep Kq19 (ninS ne_b6_17_b8_17 (ninS ne_b6_17_b10_17 nin0))
      replace E_b8_17 := E_b8_17.keep Kq19
      replace E_b10_17 := E_b10_17.keep Kq19
      obtain ⟨v20, q_v20⟩ : ∃ z : UInt64, (FP.dadd (0 : UInt64) (FP.ddiv v18 (FP.dsub (4607182418800017408 : UInt64) (4602678819172646912 : UInt64)))) = z := ⟨_, rfl⟩
      have V_b8_17 : Ary tr Z h19 b8_17 .double [(.double (0 : UInt64)), (.double v20)] := by rw [← q_v20]; exact gq19_0
      rw [show ((0 : Int32) + (1 : Int32)) = (1 : Int32) from by decide] at gq19_1
      have V_b10_17 := gq19_1
      replace Z0 := Nat.le_trans Z0 Kq19.1
      have S_v20 : Dy v20 (0 + 12 * n14.toInt / (4 - 2)) 0 := by have q := LU166.2.2.2; rwa [q_v20] at q
      have b_v20 := own_dq (n := 4 - 2) (k := n14.toInt) (own_r4 ⟨by decide, by decide⟩) (own_k10 q_n14)
      refine own_aload X19 hx hby rfl rfl at_169 (pc' := 171) rfl ?_
      refine own_iload X19 hx hby rfl at_171 (pc' := 173) rfl ?_
      refine own_iconst X19 hx hby (v := (0 : Int32)) (by decide) at_173 (pc' := 174) rfl ?_
      refine own_ldc2D X19 hx hby hZ hown (hw _ (List.mem_of_getElem? (i := 25) rfl)) at_174 (pc' := 177) rfl ?_
      refine own_iconst X19 hx hby (v := (3 : Int32)) (by decide) at_177 (pc' := 178) rfl ?_
      refine own_iload X19 hx hby rfl at_178 (pc' := 180) rfl ?_
      refine own_imul X19 hx hby rfl at_180 (pc' := 181) rfl ?_
      obtain ⟨v21, q_v21⟩ : ∃ z : UInt64, (FP.i2d ((3 : Int32) * n15)) = z := ⟨_, rfl⟩
      have D_v21 : Dy v21 (3 * n15.toInt) 0 := q_v21 ▸ (dy_i2d ((3 : Int32) * n15)).to (own_3k (own_k10 q_n15))
      refine own_i2d X19 hx hby q_v21 at_181 (pc' := 182) rfl ?_
      have LU182g := own_g own_half ⟨by decide, by decide⟩
      have LU182 := own_dn own_half ⟨by decide, by decide⟩ D_v21 (own_k10 q_n15) own_d0 own_b0
      refine own_virtual X19 hx hby hZ (y := (⟨"com/example/bidfold/bidfold/Branching", "learn", "(IZDD)V"⟩ : MethodName)) (y' := (⟨"com/example/bidfold/bidfold/Branching", "learn", "(IZDD)V"⟩ : MethodName)) (C := "com/example/bidfold/bidfold/Branching") (rest := []) hown (hw _ (List.mem_of_getElem? (i := 26) rfl)) (hw _ (List.mem_of_getElem? (i := 27) rfl)) (notFace_of_selects (args := #[]) (mvT hZ (hw _ (List.mem_of_getElem? (i := 29) rfl)))) (hw _ (List.mem_of_getElem? (i := 29) rfl)) (hw _ (List.mem_of_getElem? (i := 28) rfl)) (hw _ (List.mem_of_getElem? (i := 30) rfl)) (hw _ (List.mem_of_getElem? (i := 2) rfl)) (by decide) (rm310 l Z a0 hw [] b16 (4602678819172646912 : UInt64) v21 b4_17 b6_17 (0 : UInt64) (0 : UInt64) (0 : Int32) (0 : Int32) h19 n0 Z0 F_b16_downFalls F_b16_downCounts V_b4_17 V_b6_17 LU182g.1 LU182g.2 LU182.1 LU182.2.1 g_b4_17 ne_b16_b4_17 (Ne.symm ne_b4_17_b6_17) g_b6_17 ne_b16_b6_17) eH19 (by rw [hml]; rfl) (a := b16) E_b16 (argsL := [(.int (1 : Int32)), (.int (0 : Int32)), (.double (4602678819172646912 : UInt64)), (.double v21)]) rfl (lenOf pd_2 rfl) rfl at_182 (pc' := 185) rfl (by decide) (W := 0) (Nat.le_of_eq rfl) (by decide) (by decide) (by decide) (fun T22 h22 Lc22 v22r X22 eH22 hQ22 => ?_)
      obtain ⟨rfl, Nq22, Kq22, gq22_0, gq22_1⟩ := hQ22
      have N22 := Fr.app N19 Nq22
      replace E_b16 := E_b16.keep Kq22
      replace F_b16_downFalls := F_b16_downFalls.keep Kq22 (ninS ne_b16_b4_17 (ninS ne_b16_b6_17 nin0))
      replace F_b16_downCounts := F_b16_downCounts.keep Kq22 (ninS ne_b16_b4_17 (ninS ne_b16_b6_17 nin0))
      replace F_b16_upFalls := F_b16_upFalls.keep Kq22 (ninS ne_b16_b4_17 (ninS ne_b16_b6_17 nin0))
      replace F_b16_upCounts := F_b16_upCounts.keep Kq22 (ninS ne_b16_b4_17 (ninS ne_b16_b6_17 nin0))
      replace E_b4_17 := E_b4_17.keep Kq22
      replace E_b6_17 := E_b6_17.keep Kq22
      replace E_b8_17 := E_b8_17.keep Kq22
      replace V_b8_17 := V_b8_17.keep Kq22 (ninS (Ne.symm ne_b4_17_b8_17) (ninS (Ne.symm ne_b6_17_b8_17) nin0))
      replace E_b10_17 := E_b10_17.keep Kq22
      replace V_b10_17 := V_b10_17.keep Kq22 (ninS (Ne.symm ne_b4_17_b10_17) (ninS (Ne.symm ne_b6_17_b10_17) nin0))
      obtain ⟨v23, q_v23⟩ : ∃ z : UInt64, (FP.dadd (0 : UInt64) (FP.ddiv v21 (4602678819172646912 : UInt64))) = z := ⟨_, rfl⟩
      have V_b4_17 : Ary tr Z h22 b4_17 .double [(.double (0 : UInt64)), (.double v23)] := by rw [← q_v23]; exact gq22_0
      rw [show ((0 : Int32) + (1 : Int32)) = (1 : Int32) from by decide] at gq22_1
      have V_b6_17 := gq22_1
      replace Z0 := Nat.le_trans Z0 Kq22.1
      have S_v23 : Dy v23 (0 + 12 * n15.toInt / 2) 0 := by have q := LU182.2.2; rwa [q_v23] at q
      have b_v23 := own_dq (n := 2) (k := n15.toInt) ⟨by decide, by decide⟩ (own_k10 q_n15)
      rcases own_n3 q_n3 with rfl | rfl | rfl
      · refine own_iload X22 hx hby rfl at_185 (pc' := 187) rfl ?_
        refine own_iconst X22 hx hby (v := (1 : Int32)) (by decide) at_187 (pc' := 188) rfl ?_
        refine own_icT X22 hx hby at_188 (by decide) (by decide) (pc' := 211) (by decide) ?_
        refine own_iload X22 hx hby rfl at_211 (pc' := 213) rfl ?_
        refine own_iconst X22 hx hby (v := (2 : Int32)) (by decide) at_213 (pc' := 214) rfl ?_
        refine own_icT X22 hx hby at_214 (by decide) (by decide) (pc' := 237) (by decide) ?_
        rcases own_n3 q_n4 with rfl | rfl | rfl
        · refine own_iload X22 hx hby rfl at_237 (pc' := 239) rfl ?_
          refine own_iconst X22 hx hby (v := (1 : Int32)) (by decide) at_239 (pc' := 240) rfl ?_
          refine own_icT X22 hx hby at_240 (by decide) (by decide) (pc' := 263) (by decide) ?_
          refine own_iload X22 hx hby rfl at_263 (pc' := 265) rfl ?_
          refine own_iconst X22 hx hby (v := (2 : Int32)) (by decide) at_265 (pc' := 266) rfl ?_
          refine own_icT X22 hx hby at_266 (by decide) (by decide) (pc' := 289) (by decide) ?_
          as_aux_lemma =>
            refine own_aload X22 hx hby rfl rfl at_289 (pc' := 291) rfl ?_
            refine own_iload X22 hx hby rfl at_291 (pc' := 293) rfl ?_
            refine own_iload X22 hx hby rfl at_293 (pc' := 295) rfl ?_
            obtain ⟨v24, q_v24⟩ : ∃ z : UInt64, (FP.i2d n5) = z := ⟨_, rfl⟩
            have D_v24 : Dy v24 n5.toInt 0 := q_v24 ▸ dy_i2d n5
            refine own_i2d X22 hx hby q_v24 at_295 (pc' := 296) rfl ?_
            refine own_ldc2D X22 hx hby hZ hown (hw _ (List.mem_of_getElem? (i := 33) rfl)) at_296 (pc' := 299) rfl ?_
            obtain ⟨v25, q_v25⟩ : ∃ z : UInt64, (FP.ddiv v24 (4620693217682128896 : UInt64)) = z := ⟨_, rfl⟩
            have R9 := own_r9 q_n5
            have D_v25 : Dy v25 n5.toInt 3 := own_div8 q_v25 D_v24 R9
            have nn_v25 := D_v25.nn
            refine own_ddiv X22 hx hby (by rw [q_v25]; exact nn_v25) q_v25 at_299 (pc' := 300) rfl ?_
            have MA := own_f0 (e := (0 : UInt64))
            have MB := own_f0 (e := (0 : UInt64))
            have SD := own_sides MA MB own_tz own_tz D_v25 R9
            refine own_virtual X22 hx hby hZ (y := (⟨"com/example/bidfold/bidfold/Branching", "leansIn", "(ID)Z"⟩ : MethodName)) (y' := (⟨"com/example/bidfold/bidfold/Branching", "leansIn", "(ID)Z"⟩ : MethodName)) (C := "com/example/bidfold/bidfold/Branching") (rest := []) hown (hw _ (List.mem_of_getElem? (i := 34) rfl)) (hw _ (List.mem_of_getElem? (i := 35) rfl)) (notFace_of_selects (args := #[]) (mvT hZ (hw _ (List.mem_of_getElem? (i := 37) rfl)))) (hw _ (List.mem_of_getElem? (i := 37) rfl)) (hw _ (List.mem_of_getElem? (i := 36) rfl)) (hw _ (List.mem_of_getElem? (i := 38) rfl)) (hw _ (List.mem_of_getElem? (i := 2) rfl)) (by decide) (rm40 l Z a0 hw [] b16 v25 b8_17 b10_17 (0 : UInt64) v20 (0 : Int32) (1 : Int32) b4_17 b6_17 (0 : UInt64) v23 (0 : Int32) (1 : Int32) h22 n0 Z0 F_b16_upFalls F_b16_upCounts V_b8_17 V_b10_17 F_b16_downFalls F_b16_downCounts V_b4_17 V_b6_17 (fun h => absurd h (by decide)) SD.1 SD.2.1 (fun h => absurd h (by decide)) SD.2.2.1) eH22 (by rw [hml]; rfl) (a := b16) E_b16 (argsL := [(.int (0 : Int32)), (.double v25)]) rfl (lenOf pd_3 rfl) rfl at_300 (pc' := 303) rfl (by decide) (W := 0) (Nat.le_of_eq rfl) (by decide) (by decide) (by decide) (fun T26 h26 Lc26 v26r X26 eH26 hQ26 => ?_)
            obtain ⟨rfl, Nq26, rfl⟩ := hQ26
            have N26 := Fr.app N22 Nq26
            dsimp only [Option.toList, List.cons_append, List.nil_append]
            generalize q_r27 : (if dle (FP.dmul (if 0 < (0 : Int32) then (FP.ddiv (0 : UInt64) (FP.i2d (0 : Int32))) else (4607182418800017408 : UInt64)) (FP.dsub (4607182418800017408 : UInt64) v25)) (FP.dmul (if 0 < (0 : Int32) then (FP.ddiv (0 : UInt64) (FP.i2d (0 : Int32))) else (4607182418800017408 : UInt64)) v25) then (1 : Int32) else (0 : Int32)) = r27
            refine own_istore X26 hx hby (L' := #[.val (.int p0), .val (.int p1), .val (.int p2), .val (.long p3), .second, .val (.int (0 : Int32)), .val (.int (1 : Int32)), .val (.int (0 : Int32)), .val (.int (0 : Int32)), .val (.int n5), .val (.int n6), .val (.int n7), .val (.int n8), .val (.int n9), .val (.int n10), .val (.int n11), .val (.int n12), .val (.int n13), .val (.int n14), .val (.int n15), .val (.ref b16), .val (.int r27), .unset, .unset, .unset, .unset, .unset, .unset, .unset, .unset, .unset]) rfl at_303 (pc' := 305) rfl ?_
            refine own_lconst X26 hx hby (v := (0 : Int64)) (by decide) at_305 (pc' := 306) rfl ?_
            refine own_lstore X26 hx hby (L' := #[.val (.int p0), .val (.int p1), .val (.int p2), .val (.long p3), .second, .val (.int (0 : Int32)), .val (.int (1 : Int32)), .val (.int (0 : Int32)), .val (.int (0 : Int32)), .val (.int n5), .val (.int n6), .val (.int n7), .val (.int n8), .val (.int n9), .val (.int n10), .val (.int n11), .val (.int n12), .val (.int n13), .val (.int n14), .val (.int n15), .val (.ref b16), .val (.int r27), .val (.long (0 : Int64)), .second, .unset, .unset, .unset, .unset, .unset, .unset, .unset]) rfl at_306 (pc' := 308) rfl ?_
            refine own_iload X26 hx hby rfl at_308 (pc' := 310) rfl ?_
            refine own_iconst X26 hx hby (v := (1 : Int32)) (by decide) at_310 (pc' := 311) rfl ?_
            refine own_icT X26 hx hby at_311 (by decide) (by decide) (pc' := 332) (by decide) ?_
            refine own_iload X26 hx hby rfl at_332 (pc' := 334) rfl ?_
            refine own_iconst X26 hx hby (v := (2 : Int32)) (by decide) at_334 (pc' := 335) rfl ?_
            refine own_icT X26 hx hby at_335 (by decide) (by decide) (pc' := 356) (by decide) ?_
            refine own_lconst X26 hx hby (v := (0 : Int64)) (by decide) at_356 (pc' := 357) rfl ?_
            refine own_lstore X26 hx hby (L' := #[.val (.int p0), .val (.int p1), .val (.int p2), .val (.long p3), .second, .val (.int (0 : Int32)), .val (.int (1 : Int32)), .val (.int (0 : Int32)), .val (.int (0 : Int32)), .val (.int n5), .val (.int n6), .val (.int n7), .val (.int n8), .val (.int n9), .val (.int n10), .val (.int n11), .val (.int n12), .val (.int n13), .val (.int n14), .val (.int n15), .val (.ref b16), .val (.int r27), .val (.long (0 : Int64)), .second, .val (.long (0 : Int64)), .second, .unset, .unset, .unset, .unset, .unset]) rfl at_357 (pc' := 359) rfl ?_
            refine own_iload X26 hx hby rfl at_359 (pc' := 361) rfl ?_
            refine own_iconst X26 hx hby (v := (1 : Int32)) (by decide) at_361 (pc' := 362) rfl ?_
            refine own_icT X26 hx hby at_362 (by decide) (by decide) (pc' := 381) (by decide) ?_
            refine own_iload X26 hx hby rfl at_381 (pc' := 383) rfl ?_
            refine own_iconst X26 hx hby (v := (2 : Int32)) (by decide) at_383 (pc' := 384) rfl ?_
            refine own_icT X26 hx hby at_384 (by decide) (by decide) (pc' := 403) (by decide) ?_
            refine own_iload X26 hx hby rfl at_403 (pc' := 405) rfl ?_
            refine own_ifF X26 hx hby at_405 (by decide) (pc' := 408) rfl ?_
            refine own_ldc2L X26 hx hby hZ hown (hw _ (List.mem_of_getElem? (i := 42) rfl)) at_408 (pc' := 411) rfl ?_
            refine own_goto X26 hx hby at_411 (by decide) (pc' := 431) (by decide) ?_
            refine own_lstore X26 hx hby (L' := #[.val (.int p0), .val (.int p1), .val (.int p2), .val (.long p3), .second, .val (.int (0 : Int32)), .val (.int (1 : Int32)), .val (.int (0 : Int32)), .val (.int (0 : Int32)), .val (.int n5), .val (.int n6), .val (.int n7), .val (.int n8), .val (.int n9), .val (.int n10), .val (.int n11), .val (.int n12), .val (.int n13), .val (.int n14), .val (.int n15), .val (.ref b16), .val (.int r27), .val (.long (0 : Int64)), .second, .val (.long (0 : Int64)), .second, .val (.long (2 : Int64)), .second, .unset, .unset, .unset]) rfl at_431 (pc' := 433) rfl ?_
            refine own_iload X26 hx hby rfl at_433 (pc' := 435) rfl ?_
            refine own_ifF X26 hx hby at_435 (by decide) (pc' := 438) rfl ?_
            refine own_ldc2L X26 hx hby hZ hown (hw _ (List.mem_of_getElem? (i := 42) rfl)) at_438 (pc' := 441) rfl ?_
            refine own_goto X26 hx hby at_441 (by decide) (pc' := 461) (by decide) ?_
            refine own_lstore X26 hx hby (L' := #[.val (.int p0), .val (.int p1), .val (.int p2), .val (.long p3), .second, .val (.int (0 : Int32)), .val (.int (1 : Int32)), .val (.int (0 : Int32)), .val (.int (0 : Int32)), .val (.int n5), .val (.int n6), .val (.int n7), .val (.int n8), .val (.int n9), .val (.int n10), .val (.int n11), .val (.int n12), .val (.int n13), .val (.int n14), .val (.int n15), .val (.ref b16), .val (.int r27), .val (.long (0 : Int64)), .second, .val (.long (0 : Int64)), .second, .val (.long (2 : Int64)), .second, .val (.long (2 : Int64)), .second, .unset]) rfl at_461 (pc' := 463) rfl ?_
            have eu := own_e2
            have ed := own_e2
            refine own_lload X26 hx hby rfl at_463 (pc' := 465) rfl ?_
            refine own_bipush X26 hx hby (v := (8 : Int32)) (by decide) at_465 (pc' := 467) rfl ?_
            refine own_iload X26 hx hby rfl at_467 (pc' := 469) rfl ?_
            refine own_isub X26 hx hby rfl at_469 (pc' := 470) rfl ?_
            refine own_i2l X26 hx hby rfl at_470 (pc' := 471) rfl ?_
            refine own_lmul X26 hx hby rfl at_471 (pc' := 472) rfl ?_
            refine own_lload X26 hx hby rfl at_472 (pc' := 474) rfl ?_
            refine own_iload X26 hx hby rfl at_474 (pc' := 476) rfl ?_
            refine own_i2l X26 hx hby rfl at_476 (pc' := 477) rfl ?_
            refine own_lmul X26 hx hby rfl at_477 (pc' := 478) rfl ?_
            generalize q_n28 : ((2 : Int64) * (((8 : Int32) - n5).toInt64)) = n28
            generalize q_n29 : ((2 : Int64) * (n5.toInt64)) = n29
            refine own_lcmp X26 hx hby rfl at_478 (pc' := 479) rfl ?_
            obtain ⟨w30, q_w30⟩ : ∃ z : Int32, (if n29 < n28 then (0 : Int32) else (1 : Int32)) = z := ⟨_, rfl⟩
            refine own_join (S' := T26.setTop (mkF m 487 #[.val (.int p0), .val (.int p1), .val (.int p2), .val (.long p3), .second, .val (.int (0 : Int32)), .val (.int (1 : Int32)), .val (.int (0 : Int32)), .val (.int (0 : Int32)), .val (.int n5), .val (.int n6), .val (.int n7), .val (.int n8), .val (.int n9), .val (.int n10), .val (.int n11), .val (.int n12), .val (.int n13), .val (.int n14), .val (.int n15), .val (.ref b16), .val (.int r27), .val (.long (0 : Int64)), .second, .val (.long (0 : Int64)), .second, .val (.long (2 : Int64)), .second, .val (.long (2 : Int64)), .second, .unset] [(.int w30)])) (fun F' k' => ?_) ?_
            · rw [← q_w30] at k'
              by_cases hc31 : n29 < n28
              · simp only [if_pos hc31] at k'
                refine own_ifT X26 hx hby at_479 (own_lc_gt_p hc31) (by decide) (pc' := 486) (by decide) ?_
                refine own_iconst X26 hx hby (v := (0 : Int32)) (by decide) at_486 (pc' := 487) rfl ?_
                exact k'
              · simp only [if_neg hc31] at k'
                refine own_ifF X26 hx hby at_479 (own_lc_gt_n hc31) (pc' := 482) rfl ?_
                refine own_iconst X26 hx hby (v := (1 : Int32)) (by decide) at_482 (pc' := 483) rfl ?_
                refine own_goto X26 hx hby at_483 (by decide) (pc' := 487) (by decide) ?_
                exact k'
            refine own_istore X26 hx hby (L' := #[.val (.int p0), .val (.int p1), .val (.int p2), .val (.long p3), .second, .val (.int (0 : Int32)), .val (.int (1 : Int32)), .val (.int (0 : Int32)), .val (.int (0 : Int32)), .val (.int n5), .val (.int n6), .val (.int n7), .val (.int n8), .val (.int n9), .val (.int n10), .val (.int n11), .val (.int n12), .val (.int n13), .val (.int n14), .val (.int n15), .val (.ref b16), .val (.int r27), .val (.long (0 : Int64)), .second, .val (.long (0 : Int64)), .second, .val (.long (2 : Int64)), .second, .val (.long (2 : Int64)), .second, .val (.int w30)]) rfl at_487 (pc' := 489) rfl ?_
            refine own_iload X26 hx hby rfl at_489 (pc' := 491) rfl ?_
            refine own_iload X26 hx hby rfl at_491 (pc' := 493) rfl ?_
            have hk32 : r27 = w30 := own_fin SD.2.2.2 R9 own_tz own_tz eu ed q_r27 q_n28 q_n29 q_w30
            refine own_icF X26 hx hby at_493 (own_ic_ne_p hk32) (pc' := 496) rfl ?_
            refine own_iconst X26 hx hby (v := (1 : Int32)) (by decide) at_496 (pc' := 497) rfl ?_
            refine own_goto X26 hx hby at_497 (by decide) (pc' := 501) (by decide) ?_
            exact own_retZ X26 hx hby Bd.notSynchronized Bd.returns (Or.inr rfl) at_501 (by decide) (by decide) eH26 ⟨rfl, N26⟩
        · as_aux_lemma =>
            refine own_iload X22 hx hby rfl at_237 (pc' := 239) rfl ?_
            refine own_iconst X22 hx hby (v := (1 : Int32)) (by decide) at_239 (pc' := 240) rfl ?_
            refine own_icF X22 hx hby at_240 (by decide) (pc' := 243) rfl ?_
            refine own_aload X22 hx hby rfl rfl at_243 (pc' := 245) rfl ?_
            refine own_iload X22 hx hby rfl at_245 (pc' := 247) rfl ?_
            refine own_iconst X22 hx hby (v := (0 : Int32)) (by decide) at_247 (pc' := 248) rfl ?_
            refine own_iload X22 hx hby rfl at_248 (pc' := 250) rfl ?_
            obtain ⟨v33, q_v33⟩ : ∃ z : UInt64, (FP.i2d n8) = z := ⟨_, rfl⟩
            have D_v33 : Dy v33 n8.toInt 0 := q_v33 ▸ dy_i2d n8
            refine own_i2d X22 hx hby q_v33 at_250 (pc' := 251) rfl ?_
            refine own_ldc2D X22 hx hby hZ hown (hw _ (List.mem_of_getElem? (i := 43) rfl)) at_251 (pc' := 254) rfl ?_
            obtain ⟨v34, q_v34⟩ : ∃ z : UInt64, (FP.ddiv v33 (4616189618054758400 : UInt64)) = z := ⟨_, rfl⟩
            have R_n8 := own_q3r q_n8
            have D_v34 : Dy v34 n8.toInt 2 := own_div4 q_v34 D_v33 R_n8
            have nn_v34 := D_v34.nn
            refine own_ddiv X22 hx hby (by rw [q_v34]; exact nn_v34) q_v34 at_254 (pc' := 255) rfl ?_
            refine own_iconst X22 hx hby (v := (3 : Int32)) (by decide) at_255 (pc' := 256) rfl ?_
            refine own_iload X22 hx hby rfl at_256 (pc' := 258) rfl ?_
            refine own_imul X22 hx hby rfl at_258 (pc' := 259) rfl ?_
            obtain ⟨v35, q_v35⟩ : ∃ z : UInt64, (FP.i2d ((3 : Int32) * n12)) = z := ⟨_, rfl⟩
            have D_v35 : Dy v35 (3 * n12.toInt) 0 := q_v35 ▸ (dy_i2d ((3 : Int32) * n12)).to (own_3k (own_k10 q_n12))
            refine own_i2d X22 hx hby q_v35 at_259 (pc' := 260) rfl ?_
            have LU260g := own_g D_v34 R_n8
            have LU260 := own_dn D_v34 R_n8 D_v35 (own_k10 q_n12) own_d0 own_b0
            refine own_virtual X22 hx hby hZ (y := (⟨"com/example/bidfold/bidfold/Branching", "learn", "(IZDD)V"⟩ : MethodName)) (y' := (⟨"com/example/bidfold/bidfold/Branching", "learn", "(IZDD)V"⟩ : MethodName)) (C := "com/example/bidfold/bidfold/Branching") (rest := []) hown (hw _ (List.mem_of_getElem? (i := 26) rfl)) (hw _ (List.mem_of_getElem? (i := 27) rfl)) (notFace_of_selects (args := #[]) (mvT hZ (hw _ (List.mem_of_getElem? (i := 29) rfl)))) (hw _ (List.mem_of_getElem? (i := 29) rfl)) (hw _ (List.mem_of_getElem? (i := 28) rfl)) (hw _ (List.mem_of_getElem? (i := 30) rfl)) (hw _ (List.mem_of_getElem? (i := 2) rfl)) (by decide) (rm300 l Z a0 hw [] b16 v34 v35 b4_17 b6_17 (0 : UInt64) v23 (0 : Int32) (1 : Int32) h22 n0 Z0 F_b16_downFalls F_b16_downCounts V_b4_17 V_b6_17 LU260g.1 LU260g.2 LU260.1 LU260.2.1 g_b4_17 ne_b16_b4_17 (Ne.symm ne_b4_17_b6_17) g_b6_17 ne_b16_b6_17) eH22 (by rw [hml]; rfl) (a := b16) E_b16 (argsL := [(.int (0 : Int32)), (.int (0 : Int32)), (.double v34), (.double v35)]) rfl (lenOf pd_2 rfl) rfl at_260 (pc' := 263) rfl (by decide) (W := 0) (Nat.le_of_eq rfl) (by decide) (by decide) (by decide) (fun T36 h36 Lc36 v36r X36 eH36 hQ36 => ?_)
            obtain ⟨rfl, Nq36, Kq36, gq36_0, gq36_1⟩ := hQ36
            have N36 := Fr.app N22 Nq36
            replace E_b16 := E_b16.keep Kq36
            replace F_b16_downFalls := F_b16_downFalls.keep Kq36 (ninS ne_b16_b4_17 (ninS ne_b16_b6_17 nin0))
            replace F_b16_downCounts := F_b16_downCounts.keep Kq36 (ninS ne_b16_b4_17 (ninS ne_b16_b6_17 nin0))
            replace F_b16_upFalls := F_b16_upFalls.keep Kq36 (ninS ne_b16_b4_17 (ninS ne_b16_b6_17 nin0))
            replace F_b16_upCounts := F_b16_upCounts.keep Kq36 (ninS ne_b16_b4_17 (ninS ne_b16_b6_17 nin0))
            replace E_b4_17 := E_b4_17.keep Kq36
            replace E_b6_17 := E_b6_17.keep Kq36
            replace E_b8_17 := E_b8_17.keep Kq36
            replace V_b8_17 := V_b8_17.keep Kq36 (ninS (Ne.symm ne_b4_17_b8_17) (ninS (Ne.symm ne_b6_17_b8_17) nin0))
            replace E_b10_17 := E_b10_17.keep Kq36
            replace V_b10_17 := V_b10_17.keep Kq36 (ninS (Ne.symm ne_b4_17_b10_17) (ninS (Ne.symm ne_b6_17_b10_17) nin0))
            obtain ⟨v37, q_v37⟩ : ∃ z : UInt64, (FP.dadd (0 : UInt64) (FP.ddiv v35 v34)) = z := ⟨_, rfl⟩
            have V_b4_17 : Ary tr Z h36 b4_17 .double [(.double v37), (.double v23)] := by rw [← q_v37]; exact gq36_0
            rw [show ((0 : Int32) + (1 : Int32)) = (1 : Int32) from by decide] at gq36_1
            have V_b6_17 := gq36_1
            replace Z0 := Nat.le_trans Z0 Kq36.1
            have S_v37 : Dy v37 (0 + 12 * n12.toInt / n8.toInt) 0 := by have q := LU260.2.2; rwa [q_v37] at q
            have b_v37 := own_dq (n := n8.toInt) (k := n12.toInt) R_n8 (own_k10 q_n12)
            refine own_iload X36 hx hby rfl at_263 (pc' := 265) rfl ?_
            refine own_iconst X36 hx hby (v := (2 : Int32)) (by decide) at_265 (pc' := 266) rfl ?_
            refine own_icT X36 hx hby at_266 (by decide) (by decide) (pc' := 289) (by decide) ?_
            refine own_aload X36 hx hby rfl rfl at_289 (pc' := 291) rfl ?_
            refine own_iload X36 hx hby rfl at_291 (pc' := 293) rfl ?_
            refine own_iload X36 hx hby rfl at_293 (pc' := 295) rfl ?_
            obtain ⟨v38, q_v38⟩ : ∃ z : UInt64, (FP.i2d n5) = z := ⟨_, rfl⟩
            have D_v38 : Dy v38 n5.toInt 0 := q_v38 ▸ dy_i2d n5
            refine own_i2d X36 hx hby q_v38 at_295 (pc' := 296) rfl ?_
            refine own_ldc2D X36 hx hby hZ hown (hw _ (List.mem_of_getElem? (i := 33) rfl)) at_296 (pc' := 299) rfl ?_
            obtain ⟨v39, q_v39⟩ : ∃ z : UInt64, (FP.ddiv v38 (4620693217682128896 : UInt64)) = z := ⟨_, rfl⟩
            have R9 := own_r9 q_n5
            have D_v39 : Dy v39 n5.toInt 3 := own_div8 q_v39 D_v38 R9
            have nn_v39 := D_v39.nn
            refine own_ddiv X36 hx hby (by rw [q_v39]; exact nn_v39) q_v39 at_299 (pc' := 300) rfl ?_
            have MA := own_f0 (e := (0 : UInt64))
            have MB0 := own_f1 S_v37 (own_b1' b_v37)
            have MB := own_ifp (p := 0 < (1 : Int32)) (by decide) (y := (4607182418800017408 : UInt64)) MB0
            have SD := own_sides MA MB own_tz (own_t2 (own_b1' b_v37)) D_v39 R9
            refine own_virtual X36 hx hby hZ (y := (⟨"com/example/bidfold/bidfold/Branching", "leansIn", "(ID)Z"⟩ : MethodName)) (y' := (⟨"com/example/bidfold/bidfold/Branching", "leansIn", "(ID)Z"⟩ : MethodName)) (C := "com/example/bidfold/bidfold/Branching") (rest := []) hown (hw _ (List.mem_of_getElem? (i := 34) rfl)) (hw _ (List.mem_of_getElem? (i := 35) rfl)) (notFace_of_selects (args := #[]) (mvT hZ (hw _ (List.mem_of_getElem? (i := 37) rfl)))) (hw _ (List.mem_of_getElem? (i := 37) rfl)) (hw _ (List.mem_of_getElem? (i := 36) rfl)) (hw _ (List.mem_of_getElem? (i := 38) rfl)) (hw _ (List.mem_of_getElem? (i := 2) rfl)) (by decide) (rm40 l Z a0 hw [] b16 v39 b8_17 b10_17 (0 : UInt64) v20 (0 : Int32) (1 : Int32) b4_17 b6_17 v37 v23 (1 : Int32) (1 : Int32) h36 n0 Z0 F_b16_upFalls F_b16_upCounts V_b8_17 V_b10_17 F_b16_downFalls F_b16_downCounts V_b4_17 V_b6_17 (fun h => absurd h (by decide)) SD.1 SD.2.1 (fun _ => MB0.nn) SD.2.2.1) eH36 (by rw [hml]; rfl) (a := b16) E_b16 (argsL := [(.int (0 : Int32)), (.double v39)]) rfl (lenOf pd_3 rfl) rfl at_300 (pc' := 303) rfl (by decide) (W := 0) (Nat.le_of_eq rfl) (by decide) (by decide) (by decide) (fun T40 h40 Lc40 v40r X40 eH40 hQ40 => ?_)
            obtain ⟨rfl, Nq40, rfl⟩ := hQ40
            have N40 := Fr.app N36 Nq40
            dsimp only [Option.toList, List.cons_append, List.nil_append]
            generalize q_r41 : (if dle (FP.dmul (if 0 < (0 : Int32) then (FP.ddiv (0 : UInt64) (FP.i2d (0 : Int32))) else (4607182418800017408 : UInt64)) (FP.dsub (4607182418800017408 : UInt64) v39)) (FP.dmul (if 0 < (1 : Int32) then (FP.ddiv v37 (FP.i2d (1 : Int32))) else (4607182418800017408 : UInt64)) v39) then (1 : Int32) else (0 : Int32)) = r41
            refine own_istore X40 hx hby (L' := #[.val (.int p0), .val (.int p1), .val (.int p2), .val (.long p3), .second, .val (.int (0 : Int32)), .val (.int (1 : Int32)), .val (.int (0 : Int32)), .val (.int (1 : Int32)), .val (.int n5), .val (.int n6), .val (.int n7), .val (.int n8), .val (.int n9), .val (.int n10), .val (.int n11), .val (.int n12), .val (.int n13), .val (.int n14), .val (.int n15), .val (.ref b16), .val (.int r41), .unset, .unset, .unset, .unset, .unset, .unset, .unset, .unset, .unset]) rfl at_303 (pc' := 305) rfl ?_
            refine own_lconst X40 hx hby (v := (0 : Int64)) (by decide) at_305 (pc' := 306) rfl ?_
            refine own_lstore X40 hx hby (L' := #[.val (.int p0), .val (.int p1), .val (.int p2), .val (.long p3), .second, .val (.int (0 : Int32)), .val (.int (1 : Int32)), .val (.int (0 : Int32)), .val (.int (1 : Int32)), .val (.int n5), .val (.int n6), .val (.int n7), .val (.int n8), .val (.int n9), .val (.int n10), .val (.int n11), .val (.int n12), .val (.int n13), .val (.int n14), .val (.int n15), .val (.ref b16), .val (.int r41), .val (.long (0 : Int64)), .second, .unset, .unset, .unset, .unset, .unset, .unset, .unset]) rfl at_306 (pc' := 308) rfl ?_
            refine own_iload X40 hx hby rfl at_308 (pc' := 310) rfl ?_
            refine own_iconst X40 hx hby (v := (1 : Int32)) (by decide) at_310 (pc' := 311) rfl ?_
            refine own_icT X40 hx hby at_311 (by decide) (by decide) (pc' := 332) (by decide) ?_
            refine own_iload X40 hx hby rfl at_332 (pc' := 334) rfl ?_
            refine own_iconst X40 hx hby (v := (2 : Int32)) (by decide) at_334 (pc' := 335) rfl ?_
            refine own_icT X40 hx hby at_335 (by decide) (by decide) (pc' := 356) (by decide) ?_
            refine own_lconst X40 hx hby (v := (0 : Int64)) (by decide) at_356 (pc' := 357) rfl ?_
            refine own_lstore X40 hx hby (L' := #[.val (.int p0), .val (.int p1), .val (.int p2), .val (.long p3), .second, .val (.int (0 : Int32)), .val (.int (1 : Int32)), .val (.int (0 : Int32)), .val (.int (1 : Int32)), .val (.int n5), .val (.int n6), .val (.int n7), .val (.int n8), .val (.int n9), .val (.int n10), .val (.int n11), .val (.int n12), .val (.int n13), .val (.int n14), .val (.int n15), .val (.ref b16), .val (.int r41), .val (.long (0 : Int64)), .second, .val (.long (0 : Int64)), .second, .unset, .unset, .unset, .unset, .unset]) rfl at_357 (pc' := 359) rfl ?_
            refine own_iload X40 hx hby rfl at_359 (pc' := 361) rfl ?_
            refine own_iconst X40 hx hby (v := (1 : Int32)) (by decide) at_361 (pc' := 362) rfl ?_
            refine own_icF X40 hx hby at_362 (by decide) (pc' := 365) rfl ?_
            refine own_lload X40 hx hby rfl at_365 (pc' := 367) rfl ?_
            refine own_ldc2L X40 hx hby hZ hown (hw _ (List.mem_of_getElem? (i := 44) rfl)) at_367 (pc' := 370) rfl ?_
            refine own_iload X40 hx hby rfl at_370 (pc' := 372) rfl ?_
            refine own_i2l X40 hx hby rfl at_372 (pc' := 373) rfl ?_
            refine own_lmul X40 hx hby rfl at_373 (pc' := 374) rfl ?_
            refine own_iload X40 hx hby rfl at_374 (pc' := 376) rfl ?_
            refine own_i2l X40 hx hby rfl at_376 (pc' := 377) rfl ?_
            refine own_ldiv X40 hx hby (own_nzL (c_i2l n8) R_n8.1) rfl at_377 (pc' := 378) rfl ?_
            refine own_ladd X40 hx hby rfl at_378 (pc' := 379) rfl ?_
            generalize q_n42 : ((0 : Int64) + (((12 : Int64) * (n12.toInt64)) / (n8.toInt64))) = n42
            refine own_lstore X40 hx hby (L' := #[.val (.int p0), .val (.int p1), .val (.int p2), .val (.long p3), .second, .val (.int (0 : Int32)), .val (.int (1 : Int32)), .val (.int (0 : Int32)), .val (.int (1 : Int32)), .val (.int n5), .val (.int n6), .val (.int n7), .val (.int n8), .val (.int n9), .val (.int n10), .val (.int n11), .val (.int n12), .val (.int n13), .val (.int n14), .val (.int n15), .val (.ref b16), .val (.int r41), .val (.long (0 : Int64)), .second, .val (.long n42), .second, .unset, .unset, .unset, .unset, .unset]) rfl at_379 (pc' := 381) rfl ?_
            refine own_iload X40 hx hby rfl at_381 (pc' := 383) rfl ?_
            refine own_iconst X40 hx hby (v := (2 : Int32)) (by decide) at_383 (pc' := 384) rfl ?_
            refine own_icT X40 hx hby at_384 (by decide) (by decide) (pc' := 403) (by decide) ?_
            refine own_iload X40 hx hby rfl at_403 (pc' := 405) rfl ?_
            refine own_ifF X40 hx hby at_405 (by decide) (pc' := 408) rfl ?_
            refine own_ldc2L X40 hx hby hZ hown (hw _ (List.mem_of_getElem? (i := 42) rfl)) at_408 (pc' := 411) rfl ?_
            refine own_goto X40 hx hby at_411 (by decide) (pc' := 431) (by decide) ?_
            refine own_lstore X40 hx hby (L' := #[.val (.int p0), .val (.int p1), .val (.int p2), .val (.long p3), .second, .val (.int (0 : Int32)), .val (.int (1 : Int32)), .val (.int (0 : Int32)), .val (.int (1 : Int32)), .val (.int n5), .val (.int n6), .val (.int n7), .val (.int n8), .val (.int n9), .val (.int n10), .val (.int n11), .val (.int n12), .val (.int n13), .val (.int n14), .val (.int n15), .val (.ref b16), .val (.int r41), .val (.long (0 : Int64)), .second, .val (.long n42), .second, .val (.long (2 : Int64)), .second, .unset, .unset, .unset]) rfl at_431 (pc' := 433) rfl ?_
            refine own_iload X40 hx hby rfl at_433 (pc' := 435) rfl ?_
            refine own_ifT X40 hx hby at_435 (by decide) (by decide) (pc' := 444) (by decide) ?_
            refine own_iload X40 hx hby rfl at_444 (pc' := 446) rfl ?_
            refine own_iconst X40 hx hby (v := (1 : Int32)) (by decide) at_446 (pc' := 447) rfl ?_
            refine own_icF X40 hx hby at_447 (by decide) (pc' := 450) rfl ?_
            refine own_ldc2L X40 hx hby hZ hown (hw _ (List.mem_of_getElem? (i := 42) rfl)) at_450 (pc' := 453) rfl ?_
            refine own_lload X40 hx hby rfl at_453 (pc' := 455) rfl ?_
            refine own_lmul X40 hx hby rfl at_455 (pc' := 456) rfl ?_
            refine own_goto X40 hx hby at_456 (by decide) (pc' := 461) (by decide) ?_
            generalize q_n43 : ((2 : Int64) * n42) = n43
            refine own_lstore X40 hx hby (L' := #[.val (.int p0), .val (.int p1), .val (.int p2), .val (.long p3), .second, .val (.int (0 : Int32)), .val (.int (1 : Int32)), .val (.int (0 : Int32)), .val (.int (1 : Int32)), .val (.int n5), .val (.int n6), .val (.int n7), .val (.int n8), .val (.int n9), .val (.int n10), .val (.int n11), .val (.int n12), .val (.int n13), .val (.int n14), .val (.int n15), .val (.ref b16), .val (.int r41), .val (.long (0 : Int64)), .second, .val (.long n42), .second, .val (.long (2 : Int64)), .second, .val (.long n43), .second, .unset]) rfl at_461 (pc' := 463) rfl ?_
            have eu := own_e2
            have tw_n42 := own_tw (k := n12) (c_i2l n8) R_n8 (own_k10 q_n12)
            have bq_n42 := own_dq (n := n8.toInt) (k := n12.toInt) R_n8 (own_k10 q_n12)
            have et_n42 : n42.toInt = (0 + 12 * n12.toInt / n8.toInt) := own_ls q_n42 own_e0 tw_n42 (own_w3 own_b0) bq_n42
            have ed : n43.toInt = 2 * (0 + 12 * n12.toInt / n8.toInt) := own_l2 q_n43 et_n42 (own_b1' bq_n42)
            refine own_lload X40 hx hby rfl at_463 (pc' := 465) rfl ?_
            refine own_bipush X40 hx hby (v := (8 : Int32)) (by decide) at_465 (pc' := 467) rfl ?_
            refine own_iload X40 hx hby rfl at_467 (pc' := 469) rfl ?_
            as_aux_lemma =>
              refine own_isub X40 hx hby rfl at_469 (pc' := 470) rfl ?_
              refine own_i2l X40 hx hby rfl at_470 (pc' := 471) rfl ?_
              refine own_lmul X40 hx hby rfl at_471 (pc' := 472) rfl ?_
              refine own_lload X40 hx hby rfl at_472 (pc' := 474) rfl ?_
              refine own_iload X40 hx hby rfl at_474 (pc' := 476) rfl ?_
              refine own_i2l X40 hx hby rfl at_476 (pc' := 477) rfl ?_
              refine own_lmul X40 hx hby rfl at_477 (pc' := 478) rfl ?_
              generalize q_n44 : ((2 : Int64) * (((8 : Int32) - n5).toInt64)) = n44
              generalize q_n45 : (n43 * (n5.toInt64)) = n45
              refine own_lcmp X40 hx hby rfl at_478 (pc' := 479) rfl ?_
              obtain ⟨w46, q_w46⟩ : ∃ z : Int32, (if n45 < n44 then (0 : Int32) else (1 : Int32)) = z := ⟨_, rfl⟩
              refine own_join (S' := T40.setTop (mkF m 487 #[.val (.int p0), .val (.int p1), .val (.int p2), .val (.long p3), .second, .val (.int (0 : Int32)), .val (.int (1 : Int32)), .val (.int (0 : Int32)), .val (.int (1 : Int32)), .val (.int n5), .val (.int n6), .val (.int n7), .val (.int n8), .val (.int n9), .val (.int n10), .val (.int n11), .val (.int n12), .val (.int n13), .val (.int n14), .val (.int n15), .val (.ref b16), .val (.int r41), .val (.long (0 : Int64)), .second, .val (.long n42), .second, .val (.long (2 : Int64)), .second, .val (.long n43), .second, .unset] [(.int w46)])) (fun F' k' => ?_) ?_
              · rw [← q_w46] at k'
                by_cases hc47 : n45 < n44
                · simp only [if_pos hc47] at k'
                  refine own_ifT X40 hx hby at_479 (own_lc_gt_p hc47) (by decide) (pc' := 486) (by decide) ?_
                  refine own_iconst X40 hx hby (v := (0 : Int32)) (by decide) at_486 (pc' := 487) rfl ?_
                  exact k'
                · simp only [if_neg hc47] at k'
                  refine own_ifF X40 hx hby at_479 (own_lc_gt_n hc47) (pc' := 482) rfl ?_
                  refine own_iconst X40 hx hby (v := (1 : Int32)) (by decide) at_482 (pc' := 483) rfl ?_
                  refine own_goto X40 hx hby at_483 (by decide) (pc' := 487) (by decide) ?_
                  exact k'
              refine own_istore X40 hx hby (L' := #[.val (.int p0), .val (.int p1), .val (.int p2), .val (.long p3), .second, .val (.int (0 : Int32)), .val (.int (1 : Int32)), .val (.int (0 : Int32)), .val (.int (1 : Int32)), .val (.int n5), .val (.int n6), .val (.int n7), .val (.int n8), .val (.int n9), .val (.int n10), .val (.int n11), .val (.int n12), .val (.int n13), .val (.int n14), .val (.int n15), .val (.ref b16), .val (.int r41), .val (.long (0 : Int64)), .second, .val (.long n42), .second, .val (.long (2 : Int64)), .second, .val (.long n43), .second, .val (.int w46)]) rfl at_487 (pc' := 489) rfl ?_
              refine own_iload X40 hx hby rfl at_489 (pc' := 491) rfl ?_
              refine own_iload X40 hx hby rfl at_491 (pc' := 493) rfl ?_
              have hk48 : r41 = w46 := own_fin SD.2.2.2 R9 own_tz (own_t2 (own_b1' b_v37)) eu ed q_r41 q_n44 q_n45 q_w46
              refine own_icF X40 hx hby at_493 (own_ic_ne_p hk48) (pc' := 496) rfl ?_
              refine own_iconst X40 hx hby (v := (1 : Int32)) (by decide) at_496 (pc' := 497) rfl ?_
              refine own_goto X40 hx hby at_497 (by decide) (pc' := 501) (by decide) ?_
              exact own_retZ X40 hx hby Bd.notSynchronized Bd.returns (Or.inr rfl) at_501 (by decide) (by decide) eH40 ⟨rfl, N40⟩
        · as_aux_lemma =>
            refine own_iload X22 hx hby rfl at_237 (pc' := 239) rfl ?_
            refine own_iconst X22 hx hby (v := (1 : Int32)) (by decide) at_239 (pc' := 240) rfl ?_
            refine own_icF X22 hx hby at_240 (by decide) (pc' := 243) rfl ?_
            refine own_aload X22 hx hby rfl rfl at_243 (pc' := 245) rfl ?_
            refine own_iload X22 hx hby rfl at_245 (pc' := 247) rfl ?_
            refine own_iconst X22 hx hby (v := (0 : Int32)) (by decide) at_247 (pc' := 248) rfl ?_
            refine own_iload X22 hx hby rfl at_248 (pc' := 250) rfl ?_
            obtain ⟨v49, q_v49⟩ : ∃ z : UInt64, (FP.i2d n8) = z := ⟨_, rfl⟩
            have D_v49 : Dy v49 n8.toInt 0 := q_v49 ▸ dy_i2d n8
            refine own_i2d X22 hx hby q_v49 at_250 (pc' := 251) rfl ?_
            refine own_ldc2D X22 hx hby hZ hown (hw _ (List.mem_of_getElem? (i := 43) rfl)) at_251 (pc' := 254) rfl ?_
            obtain ⟨v50, q_v50⟩ : ∃ z : UInt64, (FP.ddiv v49 (4616189618054758400 : UInt64)) = z := ⟨_, rfl⟩
            have R_n8 := own_q3r q_n8
            have D_v50 : Dy v50 n8.toInt 2 := own_div4 q_v50 D_v49 R_n8
            have nn_v50 := D_v50.nn
            refine own_ddiv X22 hx hby (by rw [q_v50]; exact nn_v50) q_v50 at_254 (pc' := 255) rfl ?_
            refine own_iconst X22 hx hby (v := (3 : Int32)) (by decide) at_255 (pc' := 256) rfl ?_
            refine own_iload X22 hx hby rfl at_256 (pc' := 258) rfl ?_
            refine own_imul X22 hx hby rfl at_258 (pc' := 259) rfl ?_
            obtain ⟨v51, q_v51⟩ : ∃ z : UInt64, (FP.i2d ((3 : Int32) * n12)) = z := ⟨_, rfl⟩
            have D_v51 : Dy v51 (3 * n12.toInt) 0 := q_v51 ▸ (dy_i2d ((3 : Int32) * n12)).to (own_3k (own_k10 q_n12))
            refine own_i2d X22 hx hby q_v51 at_259 (pc' := 260) rfl ?_
            have LU260g := own_g D_v50 R_n8
            have LU260 := own_dn D_v50 R_n8 D_v51 (own_k10 q_n12) own_d0 own_b0
            refine own_virtual X22 hx hby hZ (y := (⟨"com/example/bidfold/bidfold/Branching", "learn", "(IZDD)V"⟩ : MethodName)) (y' := (⟨"com/example/bidfold/bidfold/Branching", "learn", "(IZDD)V"⟩ : MethodName)) (C := "com/example/bidfold/bidfold/Branching") (rest := []) hown (hw _ (List.mem_of_getElem? (i := 26) rfl)) (hw _ (List.mem_of_getElem? (i := 27) rfl)) (notFace_of_selects (args := #[]) (mvT hZ (hw _ (List.mem_of_getElem? (i := 29) rfl)))) (hw _ (List.mem_of_getElem? (i := 29) rfl)) (hw _ (List.mem_of_getElem? (i := 28) rfl)) (hw _ (List.mem_of_getElem? (i := 30) rfl)) (hw _ (List.mem_of_getElem? (i := 2) rfl)) (by decide) (rm300 l Z a0 hw [] b16 v50 v51 b4_17 b6_17 (0 : UInt64) v23 (0 : Int32) (1 : Int32) h22 n0 Z0 F_b16_downFalls F_b16_downCounts V_b4_17 V_b6_17 LU260g.1 LU260g.2 LU260.1 LU260.2.1 g_b4_17 ne_b16_b4_17 (Ne.symm ne_b4_17_b6_17) g_b6_17 ne_b16_b6_17) eH22 (by rw [hml]; rfl) (a := b16) E_b16 (argsL := [(.int (0 : Int32)), (.int (0 : Int32)), (.double v50), (.double v51)]) rfl (lenOf pd_2 rfl) rfl at_260 (pc' := 263) rfl (by decide) (W := 0) (Nat.le_of_eq rfl) (by decide) (by decide) (by decide) (fun T52 h52 Lc52 v52r X52 eH52 hQ52 => ?_)
            obtain ⟨rfl, Nq52, Kq52, gq52_0, gq52_1⟩ := hQ52
            have N52 := Fr.app N22 Nq52
            replace E_b16 := E_b16.keep Kq52
            replace F_b16_downFalls := F_b16_downFalls.keep Kq52 (ninS ne_b16_b4_17 (ninS ne_b16_b6_17 nin0))
            replace F_b16_downCounts := F_b16_downCounts.keep Kq52 (ninS ne_b16_b4_17 (ninS ne_b16_b6_17 nin0))
            replace F_b16_upFalls := F_b16_upFalls.keep Kq52 (ninS ne_b16_b4_17 (ninS ne_b16_b6_17 nin0))
            replace F_b16_upCounts := F_b16_upCounts.keep Kq52 (ninS ne_b16_b4_17 (ninS ne_b16_b6_17 nin0))
            replace E_b4_17 := E_b4_17.keep Kq52
            replace E_b6_17 := E_b6_17.keep Kq52
            replace E_b8_17 := E_b8_17.keep Kq52
            replace V_b8_17 := V_b8_17.keep Kq52 (ninS (Ne.symm ne_b4_17_b8_17) (ninS (Ne.symm ne_b6_17_b8_17) nin0))
            replace E_b10_17 := E_b10_17.keep Kq52
            replace V_b10_17 := V_b10_17.keep Kq52 (ninS (Ne.symm ne_b4_17_b10_17) (ninS (Ne.symm ne_b6_17_b10_17) nin0))
            obtain ⟨v53, q_v53⟩ : ∃ z : UInt64, (FP.dadd (0 : UInt64) (FP.ddiv v51 v50)) = z := ⟨_, rfl⟩
            have V_b4_17 : Ary tr Z h52 b4_17 .double [(.double v53), (.double v23)] := by rw [← q_v53]; exact gq52_0
            rw [show ((0 : Int32) + (1 : Int32)) = (1 : Int32) from by decide] at gq52_1
            have V_b6_17 := gq52_1
            replace Z0 := Nat.le_trans Z0 Kq52.1
            have S_v53 : Dy v53 (0 + 12 * n12.toInt / n8.toInt) 0 := by have q := LU260.2.2; rwa [q_v53] at q
            have b_v53 := own_dq (n := n8.toInt) (k := n12.toInt) R_n8 (own_k10 q_n12)
            refine own_iload X52 hx hby rfl at_263 (pc' := 265) rfl ?_
            refine own_iconst X52 hx hby (v := (2 : Int32)) (by decide) at_265 (pc' := 266) rfl ?_
            refine own_icF X52 hx hby at_266 (by decide) (pc' := 269) rfl ?_
            refine own_aload X52 hx hby rfl rfl at_269 (pc' := 271) rfl ?_
            refine own_iload X52 hx hby rfl at_271 (pc' := 273) rfl ?_
            refine own_iconst X52 hx hby (v := (0 : Int32)) (by decide) at_273 (pc' := 274) rfl ?_
            refine own_iload X52 hx hby rfl at_274 (pc' := 276) rfl ?_
            obtain ⟨v54, q_v54⟩ : ∃ z : UInt64, (FP.i2d n9) = z := ⟨_, rfl⟩
            have D_v54 : Dy v54 n9.toInt 0 := q_v54 ▸ dy_i2d n9
            refine own_i2d X52 hx hby q_v54 at_276 (pc' := 277) rfl ?_
            refine own_ldc2D X52 hx hby hZ hown (hw _ (List.mem_of_getElem? (i := 43) rfl)) at_277 (pc' := 280) rfl ?_
            obtain ⟨v55, q_v55⟩ : ∃ z : UInt64, (FP.ddiv v54 (4616189618054758400 : UInt64)) = z := ⟨_, rfl⟩
            have R_n9 := own_q3r q_n9
            have D_v55 : Dy v55 n9.toInt 2 := own_div4 q_v55 D_v54 R_n9
            have nn_v55 := D_v55.nn
            refine own_ddiv X52 hx hby (by rw [q_v55]; exact nn_v55) q_v55 at_280 (pc' := 281) rfl ?_
            refine own_iconst X52 hx hby (v := (3 : Int32)) (by decide) at_281 (pc' := 282) rfl ?_
            refine own_iload X52 hx hby rfl at_282 (pc' := 284) rfl ?_
            refine own_imul X52 hx hby rfl at_284 (pc' := 285) rfl ?_
            obtain ⟨v56, q_v56⟩ : ∃ z : UInt64, (FP.i2d ((3 : Int32) * n13)) = z := ⟨_, rfl⟩
            have D_v56 : Dy v56 (3 * n13.toInt) 0 := q_v56 ▸ (dy_i2d ((3 : Int32) * n13)).to (own_3k (own_k10 q_n13))
            refine own_i2d X52 hx hby q_v56 at_285 (pc' := 286) rfl ?_
            have LU286g := own_g D_v55 R_n9
            have LU286 := own_dn D_v55 R_n9 D_v56 (own_k10 q_n13) S_v53 (own_b1 b_v53)
            refine own_virtual X52 hx hby hZ (y := (⟨"com/example/bidfold/bidfold/Branching", "learn", "(IZDD)V"⟩ : MethodName)) (y' := (⟨"com/example/bidfold/bidfold/Branching", "learn", "(IZDD)V"⟩ : MethodName)) (C := "com/example/bidfold/bidfold/Branching") (rest := []) hown (hw _ (List.mem_of_getElem? (i := 26) rfl)) (hw _ (List.mem_of_getElem? (i := 27) rfl)) (notFace_of_selects (args := #[]) (mvT hZ (hw _ (List.mem_of_getElem? (i := 29) rfl)))) (hw _ (List.mem_of_getElem? (i := 29) rfl)) (hw _ (List.mem_of_getElem? (i := 28) rfl)) (hw _ (List.mem_of_getElem? (i := 30) rfl)) (hw _ (List.mem_of_getElem? (i := 2) rfl)) (by decide) (rm300 l Z a0 hw [] b16 v55 v56 b4_17 b6_17 v53 v23 (1 : Int32) (1 : Int32) h52 n0 Z0 F_b16_downFalls F_b16_downCounts V_b4_17 V_b6_17 LU286g.1 LU286g.2 LU286.1 LU286.2.1 g_b4_17 ne_b16_b4_17 (Ne.symm ne_b4_17_b6_17) g_b6_17 ne_b16_b6_17) eH52 (by rw [hml]; rfl) (a := b16) E_b16 (argsL := [(.int (0 : Int32)), (.int (0 : Int32)), (.double v55), (.double v56)]) rfl (lenOf pd_2 rfl) rfl at_286 (pc' := 289) rfl (by decide) (W := 0) (Nat.le_of_eq rfl) (by decide) (by decide) (by decide) (fun T57 h57 Lc57 v57r X57 eH57 hQ57 => ?_)
            obtain ⟨rfl, Nq57, Kq57, gq57_0, gq57_1⟩ := hQ57
            have N57 := Fr.app N52 Nq57
            replace E_b16 := E_b16.keep Kq57
            replace F_b16_downFalls := F_b16_downFalls.keep Kq57 (ninS ne_b16_b4_17 (ninS ne_b16_b6_17 nin0))
            replace F_b16_downCounts := F_b16_downCounts.keep Kq57 (ninS ne_b16_b4_17 (ninS ne_b16_b6_17 nin0))
            replace F_b16_upFalls := F_b16_upFalls.keep Kq57 (ninS ne_b16_b4_17 (ninS ne_b16_b6_17 nin0))
            replace F_b16_upCounts := F_b16_upCounts.keep Kq57 (ninS ne_b16_b4_17 (ninS ne_b16_b6_17 nin0))
            replace E_b4_17 := E_b4_17.keep Kq57
            replace E_b6_17 := E_b6_17.keep Kq57
            replace E_b8_17 := E_b8_17.keep Kq57
            replace V_b8_17 := V_b8_17.keep Kq57 (ninS (Ne.symm ne_b4_17_b8_17) (ninS (Ne.symm ne_b6_17_b8_17) nin0))
            replace E_b10_17 := E_b10_17.keep Kq57
            replace V_b10_17 := V_b10_17.keep Kq57 (ninS (Ne.symm ne_b4_17_b10_17) (ninS (Ne.symm ne_b6_17_b10_17) nin0))
            obtain ⟨v58, q_v58⟩ : ∃ z : UInt64, (FP.dadd v53 (FP.ddiv v56 v55)) = z := ⟨_, rfl⟩
            have V_b4_17 : Ary tr Z h57 b4_17 .double [(.double v58), (.double v23)] := by rw [← q_v58]; exact gq57_0
            rw [show ((1 : Int32) + (1 : Int32)) = (2 : Int32) from by decide] at gq57_1
            have V_b6_17 := gq57_1
            replace Z0 := Nat.le_trans Z0 Kq57.1
            have S_v58 : Dy v58 ((0 + 12 * n12.toInt / n8.toInt) + 12 * n13.toInt / n9.toInt) 0 := by have q := LU286.2.2; rwa [q_v58] at q
            have b_v58 := own_dq (n := n9.toInt) (k := n13.toInt) R_n9 (own_k10 q_n13)
            refine own_aload X57 hx hby rfl rfl at_289 (pc' := 291) rfl ?_
            refine own_iload X57 hx hby rfl at_291 (pc' := 293) rfl ?_
            refine own_iload X57 hx hby rfl at_293 (pc' := 295) rfl ?_
            obtain ⟨v59, q_v59⟩ : ∃ z : UInt64, (FP.i2d n5) = z := ⟨_, rfl⟩
            have D_v59 : Dy v59 n5.toInt 0 := q_v59 ▸ dy_i2d n5
            refine own_i2d X57 hx hby q_v59 at_295 (pc' := 296) rfl ?_
            refine own_ldc2D X57 hx hby hZ hown (hw _ (List.mem_of_getElem? (i := 33) rfl)) at_296 (pc' := 299) rfl ?_
            obtain ⟨v60, q_v60⟩ : ∃ z : UInt64, (FP.ddiv v59 (4620693217682128896 : UInt64)) = z := ⟨_, rfl⟩
            have R9 := own_r9 q_n5
            have D_v60 : Dy v60 n5.toInt 3 := own_div8 q_v60 D_v59 R9
            have nn_v60 := D_v60.nn
            refine own_ddiv X57 hx hby (by rw [q_v60]; exact nn_v60) q_v60 at_299 (pc' := 300) rfl ?_
            have MA := own_f0 (e := (0 : UInt64))
            have MB0 := own_f2 S_v58 (own_b2 b_v53 b_v58)
            have MB := own_ifp (p := 0 < (2 : Int32)) (by decide) (y := (4607182418800017408 : UInt64)) MB0
            have SD := own_sides MA MB own_tz (own_t1 (own_b2 b_v53 b_v58)) D_v60 R9
            refine own_virtual X57 hx hby hZ (y := (⟨"com/example/bidfold/bidfold/Branching", "leansIn", "(ID)Z"⟩ : MethodName)) (y' := (⟨"com/example/bidfold/bidfold/Branching", "leansIn", "(ID)Z"⟩ : MethodName)) (C := "com/example/bidfold/bidfold/Branching") (rest := []) hown (hw _ (List.mem_of_getElem? (i := 34) rfl)) (hw _ (List.mem_of_getElem? (i := 35) rfl)) (notFace_of_selects (args := #[]) (mvT hZ (hw _ (List.mem_of_getElem? (i := 37) rfl)))) (hw _ (List.mem_of_getElem? (i := 37) rfl)) (hw _ (List.mem_of_getElem? (i := 36) rfl)) (hw _ (List.mem_of_getElem? (i := 38) rfl)) (hw _ (List.mem_of_getElem? (i := 2) rfl)) (by decide) (rm40 l Z a0 hw [] b16 v60 b8_17 b10_17 (0 : UInt64) v20 (0 : Int32) (1 : Int32) b4_17 b6_17 v58 v23 (2 : Int32) (1 : Int32) h57 n0 Z0 F_b16_upFalls F_b16_upCounts V_b8_17 V_b10_17 F_b16_downFalls F_b16_downCounts V_b4_17 V_b6_17 (fun h => absurd h (by decide)) SD.1 SD.2.1 (fun _ => MB0.nn) SD.2.2.1) eH57 (by rw [hml]; rfl) (a := b16) E_b16 (argsL := [(.int (0 : Int32)), (.double v60)]) rfl (lenOf pd_3 rfl) rfl at_300 (pc' := 303) rfl (by decide) (W := 0) (Nat.le_of_eq rfl) (by decide) (by decide) (by decide) (fun T61 h61 Lc61 v61r X61 eH61 hQ61 => ?_)
            obtain ⟨rfl, Nq61, rfl⟩ := hQ61
            have N61 := Fr.app N57 Nq61
            dsimp only [Option.toList, List.cons_append, List.nil_append]
            generalize q_r62 : (if dle (FP.dmul (if 0 < (0 : Int32) then (FP.ddiv (0 : UInt64) (FP.i2d (0 : Int32))) else (4607182418800017408 : UInt64)) (FP.dsub (4607182418800017408 : UInt64) v60)) (FP.dmul (if 0 < (2 : Int32) then (FP.ddiv v58 (FP.i2d (2 : Int32))) else (4607182418800017408 : UInt64)) v60) then (1 : Int32) else (0 : Int32)) = r62
            refine own_istore X61 hx hby (L' := #[.val (.int p0), .val (.int p1), .val (.int p2), .val (.long p3), .second, .val (.int (0 : Int32)), .val (.int (1 : Int32)), .val (.int (0 : Int32)), .val (.int (2 : Int32)), .val (.int n5), .val (.int n6), .val (.int n7), .val (.int n8), .val (.int n9), .val (.int n10), .val (.int n11), .val (.int n12), .val (.int n13), .val (.int n14), .val (.int n15), .val (.ref b16), .val (.int r62), .unset, .unset, .unset, .unset, .unset, .unset, .unset, .unset, .unset]) rfl at_303 (pc' := 305) rfl ?_
            refine own_lconst X61 hx hby (v := (0 : Int64)) (by decide) at_305 (pc' := 306) rfl ?_
            refine own_lstore X61 hx hby (L' := #[.val (.int p0), .val (.int p1), .val (.int p2), .val (.long p3), .second, .val (.int (0 : Int32)), .val (.int (1 : Int32)), .val (.int (0 : Int32)), .val (.int (2 : Int32)), .val (.int n5), .val (.int n6), .val (.int n7), .val (.int n8), .val (.int n9), .val (.int n10), .val (.int n11), .val (.int n12), .val (.int n13), .val (.int n14), .val (.int n15), .val (.ref b16), .val (.int r62), .val (.long (0 : Int64)), .second, .unset, .unset, .unset, .unset, .unset, .unset, .unset]) rfl at_306 (pc' := 308) rfl ?_
            refine own_iload X61 hx hby rfl at_308 (pc' := 310) rfl ?_
            refine own_iconst X61 hx hby (v := (1 : Int32)) (by decide) at_310 (pc' := 311) rfl ?_
            refine own_icT X61 hx hby at_311 (by decide) (by decide) (pc' := 332) (by decide) ?_
            refine own_iload X61 hx hby rfl at_332 (pc' := 334) rfl ?_
            refine own_iconst X61 hx hby (v := (2 : Int32)) (by decide) at_334 (pc' := 335) rfl ?_
            refine own_icT X61 hx hby at_335 (by decide) (by decide) (pc' := 356) (by decide) ?_
            refine own_lconst X61 hx hby (v := (0 : Int64)) (by decide) at_356 (pc' := 357) rfl ?_
            as_aux_lemma =>
              refine own_lstore X61 hx hby (L' := #[.val (.int p0), .val (.int p1), .val (.int p2), .val (.long p3), .second, .val (.int (0 : Int32)), .val (.int (1 : Int32)), .val (.int (0 : Int32)), .val (.int (2 : Int32)), .val (.int n5), .val (.int n6), .val (.int n7), .val (.int n8), .val (.int n9), .val (.int n10), .val (.int n11), .val (.int n12), .val (.int n13), .val (.int n14), .val (.int n15), .val (.ref b16), .val (.int r62), .val (.long (0 : Int64)), .second, .val (.long (0 : Int64)), .second, .unset, .unset, .unset, .unset, .unset]) rfl at_357 (pc' := 359) rfl ?_
              refine own_iload X61 hx hby rfl at_359 (pc' := 361) rfl ?_
              refine own_iconst X61 hx hby (v := (1 : Int32)) (by decide) at_361 (pc' := 362) rfl ?_
              refine own_icF X61 hx hby at_362 (by decide) (pc' := 365) rfl ?_
              refine own_lload X61 hx hby rfl at_365 (pc' := 367) rfl ?_
              refine own_ldc2L X61 hx hby hZ hown (hw _ (List.mem_of_getElem? (i := 44) rfl)) at_367 (pc' := 370) rfl ?_
              refine own_iload X61 hx hby rfl at_370 (pc' := 372) rfl ?_
              refine own_i2l X61 hx hby rfl at_372 (pc' := 373) rfl ?_
              refine own_lmul X61 hx hby rfl at_373 (pc' := 374) rfl ?_
              refine own_iload X61 hx hby rfl at_374 (pc' := 376) rfl ?_
              refine own_i2l X61 hx hby rfl at_376 (pc' := 377) rfl ?_
              refine own_ldiv X61 hx hby (own_nzL (c_i2l n8) R_n8.1) rfl at_377 (pc' := 378) rfl ?_
              refine own_ladd X61 hx hby rfl at_378 (pc' := 379) rfl ?_
              generalize q_n63 : ((0 : Int64) + (((12 : Int64) * (n12.toInt64)) / (n8.toInt64))) = n63
              refine own_lstore X61 hx hby (L' := #[.val (.int p0), .val (.int p1), .val (.int p2), .val (.long p3), .second, .val (.int (0 : Int32)), .val (.int (1 : Int32)), .val (.int (0 : Int32)), .val (.int (2 : Int32)), .val (.int n5), .val (.int n6), .val (.int n7), .val (.int n8), .val (.int n9), .val (.int n10), .val (.int n11), .val (.int n12), .val (.int n13), .val (.int n14), .val (.int n15), .val (.ref b16), .val (.int r62), .val (.long (0 : Int64)), .second, .val (.long n63), .second, .unset, .unset, .unset, .unset, .unset]) rfl at_379 (pc' := 381) rfl ?_
              refine own_iload X61 hx hby rfl at_381 (pc' := 383) rfl ?_
              refine own_iconst X61 hx hby (v := (2 : Int32)) (by decide) at_383 (pc' := 384) rfl ?_
              refine own_icF X61 hx hby at_384 (by decide) (pc' := 387) rfl ?_
              refine own_lload X61 hx hby rfl at_387 (pc' := 389) rfl ?_
              refine own_ldc2L X61 hx hby hZ hown (hw _ (List.mem_of_getElem? (i := 44) rfl)) at_389 (pc' := 392) rfl ?_
              refine own_iload X61 hx hby rfl at_392 (pc' := 394) rfl ?_
              refine own_i2l X61 hx hby rfl at_394 (pc' := 395) rfl ?_
              refine own_lmul X61 hx hby rfl at_395 (pc' := 396) rfl ?_
              refine own_iload X61 hx hby rfl at_396 (pc' := 398) rfl ?_
              refine own_i2l X61 hx hby rfl at_398 (pc' := 399) rfl ?_
              refine own_ldiv X61 hx hby (own_nzL (c_i2l n9) R_n9.1) rfl at_399 (pc' := 400) rfl ?_
              refine own_ladd X61 hx hby rfl at_400 (pc' := 401) rfl ?_
              generalize q_n64 : (n63 + (((12 : Int64) * (n13.toInt64)) / (n9.toInt64))) = n64
              refine own_lstore X61 hx hby (L' := #[.val (.int p0), .val (.int p1), .val (.int p2), .val (.long p3), .second, .val (.int (0 : Int32)), .val (.int (1 : Int32)), .val (.int (0 : Int32)), .val (.int (2 : Int32)), .val (.int n5), .val (.int n6), .val (.int n7), .val (.int n8), .val (.int n9), .val (.int n10), .val (.int n11), .val (.int n12), .val (.int n13), .val (.int n14), .val (.int n15), .val (.ref b16), .val (.int r62), .val (.long (0 : Int64)), .second, .val (.long n64), .second, .unset, .unset, .unset, .unset, .unset]) rfl at_401 (pc' := 403) rfl ?_
              refine own_iload X61 hx hby rfl at_403 (pc' := 405) rfl ?_
              refine own_ifF X61 hx hby at_405 (by decide) (pc' := 408) rfl ?_
              refine own_ldc2L X61 hx hby hZ hown (hw _ (List.mem_of_getElem? (i := 42) rfl)) at_408 (pc' := 411) rfl ?_
              refine own_goto X61 hx hby at_411 (by decide) (pc' := 431) (by decide) ?_
              refine own_lstore X61 hx hby (L' := #[.val (.int p0), .val (.int p1), .val (.int p2), .val (.long p3), .second, .val (.int (0 : Int32)), .val (.int (1 : Int32)), .val (.int (0 : Int32)), .val (.int (2 : Int32)), .val (.int n5), .val (.int n6), .val (.int n7), .val (.int n8), .val (.int n9), .val (.int n10), .val (.int n11), .val (.int n12), .val (.int n13), .val (.int n14), .val (.int n15), .val (.ref b16), .val (.int r62), .val (.long (0 : Int64)), .second, .val (.long n64), .second, .val (.long (2 : Int64)), .second, .unset, .unset, .unset]) rfl at_431 (pc' := 433) rfl ?_
              refine own_iload X61 hx hby rfl at_433 (pc' := 435) rfl ?_
              refine own_ifT X61 hx hby at_435 (by decide) (by decide) (pc' := 444) (by decide) ?_
              refine own_iload X61 hx hby rfl at_444 (pc' := 446) rfl ?_
              refine own_iconst X61 hx hby (v := (1 : Int32)) (by decide) at_446 (pc' := 447) rfl ?_
              refine own_icT X61 hx hby at_447 (by decide) (by decide) (pc' := 459) (by decide) ?_
              refine own_lload X61 hx hby rfl at_459 (pc' := 461) rfl ?_
              refine own_lstore X61 hx hby (L' := #[.val (.int p0), .val (.int p1), .val (.int p2), .val (.long p3), .second, .val (.int (0 : Int32)), .val (.int (1 : Int32)), .val (.int (0 : Int32)), .val (.int (2 : Int32)), .val (.int n5), .val (.int n6), .val (.int n7), .val (.int n8), .val (.int n9), .val (.int n10), .val (.int n11), .val (.int n12), .val (.int n13), .val (.int n14), .val (.int n15), .val (.ref b16), .val (.int r62), .val (.long (0 : Int64)), .second, .val (.long n64), .second, .val (.long (2 : Int64)), .second, .val (.long n64), .second, .unset]) rfl at_461 (pc' := 463) rfl ?_
              have eu := own_e2
              have tw_n63 := own_tw (k := n12) (c_i2l n8) R_n8 (own_k10 q_n12)
              have bq_n63 := own_dq (n := n8.toInt) (k := n12.toInt) R_n8 (own_k10 q_n12)
              have et_n63 : n63.toInt = (0 + 12 * n12.toInt / n8.toInt) := own_ls q_n63 own_e0 tw_n63 (own_w3 own_b0) bq_n63
              have tw_n64 := own_tw (k := n13) (c_i2l n9) R_n9 (own_k10 q_n13)
              have bq_n64 := own_dq (n := n9.toInt) (k := n13.toInt) R_n9 (own_k10 q_n13)
              have et_n64 : n64.toInt = ((0 + 12 * n12.toInt / n8.toInt) + 12 * n13.toInt / n9.toInt) := own_ls q_n64 et_n63 tw_n64 (own_b1' bq_n63) bq_n64
              have ed := et_n64
              refine own_lload X61 hx hby rfl at_463 (pc' := 465) rfl ?_
              refine own_bipush X61 hx hby (v := (8 : Int32)) (by decide) at_465 (pc' := 467) rfl ?_
              refine own_iload X61 hx hby rfl at_467 (pc' := 469) rfl ?_
              refine own_isub X61 hx hby rfl at_469 (pc' := 470) rfl ?_
              refine own_i2l X61 hx hby rfl at_470 (pc' := 471) rfl ?_
              refine own_lmul X61 hx hby rfl at_471 (pc' := 472) rfl ?_
              refine own_lload X61 hx hby rfl at_472 (pc' := 474) rfl ?_
              refine own_iload X61 hx hby rfl at_474 (pc' := 476) rfl ?_
              refine own_i2l X61 hx hby rfl at_476 (pc' := 477) rfl ?_
              refine own_lmul X61 hx hby rfl at_477 (pc' := 478) rfl ?_
              generalize q_n65 : ((2 : Int64) * (((8 : Int32) - n5).toInt64)) = n65
              generalize q_n66 : (n64 * (n5.toInt64)) = n66
              refine own_lcmp X61 hx hby rfl at_478 (pc' := 479) rfl ?_
              obtain ⟨w67, q_w67⟩ : ∃ z : Int32, (if n66 < n65 then (0 : Int32) else (1 : Int32)) = z := ⟨_, rfl⟩
              refine own_join (S' := T61.setTop (mkF m 487 #[.val (.int p0), .val (.int p1), .val (.int p2), .val (.long p3), .second, .val (.int (0 : Int32)), .val (.int (1 : Int32)), .val (.int (0 : Int32)), .val (.int (2 : Int32)), .val (.int n5), .val (.int n6), .val (.int n7), .val (.int n8), .val (.int n9), .val (.int n10), .val (.int n11), .val (.int n12), .val (.int n13), .val (.int n14), .val (.int n15), .val (.ref b16), .val (.int r62), .val (.long (0 : Int64)), .second, .val (.long n64), .second, .val (.long (2 : Int64)), .second, .val (.long n64), .second, .unset] [(.int w67)])) (fun F' k' => ?_) ?_
              · rw [← q_w67] at k'
                by_cases hc68 : n66 < n65
                · simp only [if_pos hc68] at k'
                  refine own_ifT X61 hx hby at_479 (own_lc_gt_p hc68) (by decide) (pc' := 486) (by decide) ?_
                  refine own_iconst X61 hx hby (v := (0 : Int32)) (by decide) at_486 (pc' := 487) rfl ?_
                  exact k'
                · simp only [if_neg hc68] at k'
                  refine own_ifF X61 hx hby at_479 (own_lc_gt_n hc68) (pc' := 482) rfl ?_
                  refine own_iconst X61 hx hby (v := (1 : Int32)) (by decide) at_482 (pc' := 483) rfl ?_
                  refine own_goto X61 hx hby at_483 (by decide) (pc' := 487) (by decide) ?_
                  exact k'
              refine own_istore X61 hx hby (L' := #[.val (.int p0), .val (.int p1), .val (.int p2), .val (.long p3), .second, .val (.int (0 : Int32)), .val (.int (1 : Int32)), .val (.int (0 : Int32)), .val (.int (2 : Int32)), .val (.int n5), .val (.int n6), .val (.int n7), .val (.int n8), .val (.int n9), .val (.int n10), .val (.int n11), .val (.int n12), .val (.int n13), .val (.int n14), .val (.int n15), .val (.ref b16), .val (.int r62), .val (.long (0 : Int64)), .second, .val (.long n64), .second, .val (.long (2 : Int64)), .second, .val (.long n64), .second, .val (.int w67)]) rfl at_487 (pc' := 489) rfl ?_
              refine own_iload X61 hx hby rfl at_489 (pc' := 491) rfl ?_
              refine own_iload X61 hx hby rfl at_491 (pc' := 493) rfl ?_
              have hk69 : r62 = w67 := own_fin SD.2.2.2 R9 own_tz (own_t1 (own_b2 b_v53 b_v58)) eu ed q_r62 q_n65 q_n66 q_w67
              refine own_icF X61 hx hby at_493 (own_ic_ne_p hk69) (pc' := 496) rfl ?_
              refine own_iconst X61 hx hby (v := (1 : Int32)) (by decide) at_496 (pc' := 497) rfl ?_
              refine own_goto X61 hx hby at_497 (by decide) (pc' := 501) (by decide) ?_
              exact own_retZ X61 hx hby Bd.notSynchronized Bd.returns (Or.inr rfl) at_501 (by decide) (by decide) eH61 ⟨rfl, N61⟩
      · as_aux_lemma =>
          refine own_iload X22 hx hby rfl at_185 (pc' := 187) rfl ?_
          refine own_iconst X22 hx hby (v := (1 : Int32)) (by decide) at_187 (pc' := 188) rfl ?_
          refine own_icF X22 hx hby at_188 (by decide) (pc' := 191) rfl ?_
          refine own_aload X22 hx hby rfl rfl at_191 (pc' := 193) rfl ?_
          refine own_iload X22 hx hby rfl at_193 (pc' := 195) rfl ?_
          refine own_iconst X22 hx hby (v := (1 : Int32)) (by decide) at_195 (pc' := 196) rfl ?_
          refine own_iload X22 hx hby rfl at_196 (pc' := 198) rfl ?_
          obtain ⟨v70, q_v70⟩ : ∃ z : UInt64, (FP.i2d n6) = z := ⟨_, rfl⟩
          have D_v70 : Dy v70 n6.toInt 0 := q_v70 ▸ dy_i2d n6
          refine own_i2d X22 hx hby q_v70 at_198 (pc' := 199) rfl ?_
          refine own_ldc2D X22 hx hby hZ hown (hw _ (List.mem_of_getElem? (i := 43) rfl)) at_199 (pc' := 202) rfl ?_
          obtain ⟨v71, q_v71⟩ : ∃ z : UInt64, (FP.ddiv v70 (4616189618054758400 : UInt64)) = z := ⟨_, rfl⟩
          have R_n6 := own_q3r q_n6
          have D_v71 : Dy v71 n6.toInt 2 := own_div4 q_v71 D_v70 R_n6
          have nn_v71 := D_v71.nn
          refine own_ddiv X22 hx hby (by rw [q_v71]; exact nn_v71) q_v71 at_202 (pc' := 203) rfl ?_
          refine own_iconst X22 hx hby (v := (3 : Int32)) (by decide) at_203 (pc' := 204) rfl ?_
          refine own_iload X22 hx hby rfl at_204 (pc' := 206) rfl ?_
          refine own_imul X22 hx hby rfl at_206 (pc' := 207) rfl ?_
          obtain ⟨v72, q_v72⟩ : ∃ z : UInt64, (FP.i2d ((3 : Int32) * n10)) = z := ⟨_, rfl⟩
          have D_v72 : Dy v72 (3 * n10.toInt) 0 := q_v72 ▸ (dy_i2d ((3 : Int32) * n10)).to (own_3k (own_k10 q_n10))
          refine own_i2d X22 hx hby q_v72 at_207 (pc' := 208) rfl ?_
          have LU208g := own_g D_v71 R_n6
          have LU208 := own_up D_v71 R_n6 D_v72 (own_k10 q_n10) own_d0 own_b0
          refine own_virtual X22 hx hby hZ (y := (⟨"com/example/bidfold/bidfold/Branching", "learn", "(IZDD)V"⟩ : MethodName)) (y' := (⟨"com/example/bidfold/bidfold/Branching", "learn", "(IZDD)V"⟩ : MethodName)) (C := "com/example/bidfold/bidfold/Branching") (rest := []) hown (hw _ (List.mem_of_getElem? (i := 26) rfl)) (hw _ (List.mem_of_getElem? (i := 27) rfl)) (notFace_of_selects (args := #[]) (mvT hZ (hw _ (List.mem_of_getElem? (i := 29) rfl)))) (hw _ (List.mem_of_getElem? (i := 29) rfl)) (hw _ (List.mem_of_getElem? (i := 28) rfl)) (hw _ (List.mem_of_getElem? (i := 30) rfl)) (hw _ (List.mem_of_getElem? (i := 2) rfl)) (by decide) (rm301 l Z a0 hw [] b16 v71 v72 b8_17 b10_17 (0 : UInt64) v20 (0 : Int32) (1 : Int32) h22 n0 Z0 F_b16_upFalls F_b16_upCounts V_b8_17 V_b10_17 LU208g.1 LU208g.2 LU208.1 LU208.2.1 LU208.2.2.1 g_b8_17 ne_b16_b8_17 (Ne.symm ne_b8_17_b10_17) g_b10_17 ne_b16_b10_17) eH22 (by rw [hml]; rfl) (a := b16) E_b16 (argsL := [(.int (0 : Int32)), (.int (1 : Int32)), (.double v71), (.double v72)]) rfl (lenOf pd_2 rfl) rfl at_208 (pc' := 211) rfl (by decide) (W := 0) (Nat.le_of_eq rfl) (by decide) (by decide) (by decide) (fun T73 h73 Lc73 v73r X73 eH73 hQ73 => ?_)
          obtain ⟨rfl, Nq73, Kq73, gq73_0, gq73_1⟩ := hQ73
          have N73 := Fr.app N22 Nq73
          replace E_b16 := E_b16.keep Kq73
          replace F_b16_downFalls := F_b16_downFalls.keep Kq73 (ninS ne_b16_b8_17 (ninS ne_b16_b10_17 nin0))
          replace F_b16_downCounts := F_b16_downCounts.keep Kq73 (ninS ne_b16_b8_17 (ninS ne_b16_b10_17 nin0))
          replace F_b16_upFalls := F_b16_upFalls.keep Kq73 (ninS ne_b16_b8_17 (ninS ne_b16_b10_17 nin0))
          replace F_b16_upCounts := F_b16_upCounts.keep Kq73 (ninS ne_b16_b8_17 (ninS ne_b16_b10_17 nin0))
          replace E_b4_17 := E_b4_17.keep Kq73
          replace V_b4_17 := V_b4_17.keep Kq73 (ninS ne_b4_17_b8_17 (ninS ne_b4_17_b10_17 nin0))
          replace E_b6_17 := E_b6_17.keep Kq73
          replace V_b6_17 := V_b6_17.keep Kq73 (ninS ne_b6_17_b8_17 (ninS ne_b6_17_b10_17 nin0))
          replace E_b8_17 := E_b8_17.keep Kq73
          replace E_b10_17 := E_b10_17.keep Kq73
          obtain ⟨v74, q_v74⟩ : ∃ z : UInt64, (FP.dadd (0 : UInt64) (FP.ddiv v72 (FP.dsub (4607182418800017408 : UInt64) v71))) = z := ⟨_, rfl⟩
          have V_b8_17 : Ary tr Z h73 b8_17 .double [(.double v74), (.double v20)] := by rw [← q_v74]; exact gq73_0
          rw [show ((0 : Int32) + (1 : Int32)) = (1 : Int32) from by decide] at gq73_1
          have V_b10_17 := gq73_1
          replace Z0 := Nat.le_trans Z0 Kq73.1
          have S_v74 : Dy v74 (0 + 12 * n10.toInt / (4 - n6.toInt)) 0 := by have q := LU208.2.2.2; rwa [q_v74] at q
          have b_v74 := own_dq (n := 4 - n6.toInt) (k := n10.toInt) (own_r4 R_n6) (own_k10 q_n10)
          refine own_iload X73 hx hby rfl at_211 (pc' := 213) rfl ?_
          refine own_iconst X73 hx hby (v := (2 : Int32)) (by decide) at_213 (pc' := 214) rfl ?_
          refine own_icT X73 hx hby at_214 (by decide) (by decide) (pc' := 237) (by decide) ?_
          rcases own_n3 q_n4 with rfl | rfl | rfl
          · refine own_iload X73 hx hby rfl at_237 (pc' := 239) rfl ?_
            refine own_iconst X73 hx hby (v := (1 : Int32)) (by decide) at_239 (pc' := 240) rfl ?_
            refine own_icT X73 hx hby at_240 (by decide) (by decide) (pc' := 263) (by decide) ?_
            refine own_iload X73 hx hby rfl at_263 (pc' := 265) rfl ?_
            refine own_iconst X73 hx hby (v := (2 : Int32)) (by decide) at_265 (pc' := 266) rfl ?_
            refine own_icT X73 hx hby at_266 (by decide) (by decide) (pc' := 289) (by decide) ?_
            refine own_aload X73 hx hby rfl rfl at_289 (pc' := 291) rfl ?_
            refine own_iload X73 hx hby rfl at_291 (pc' := 293) rfl ?_
            refine own_iload X73 hx hby rfl at_293 (pc' := 295) rfl ?_
            obtain ⟨v75, q_v75⟩ : ∃ z : UInt64, (FP.i2d n5) = z := ⟨_, rfl⟩
            have D_v75 : Dy v75 n5.toInt 0 := q_v75 ▸ dy_i2d n5
            refine own_i2d X73 hx hby q_v75 at_295 (pc' := 296) rfl ?_
            refine own_ldc2D X73 hx hby hZ hown (hw _ (List.mem_of_getElem? (i := 33) rfl)) at_296 (pc' := 299) rfl ?_
            obtain ⟨v76, q_v76⟩ : ∃ z : UInt64, (FP.ddiv v75 (4620693217682128896 : UInt64)) = z := ⟨_, rfl⟩
            have R9 := own_r9 q_n5
            have D_v76 : Dy v76 n5.toInt 3 := own_div8 q_v76 D_v75 R9
            have nn_v76 := D_v76.nn
            refine own_ddiv X73 hx hby (by rw [q_v76]; exact nn_v76) q_v76 at_299 (pc' := 300) rfl ?_
            have MA0 := own_f1 S_v74 (own_b1' b_v74)
            have MA := own_ifp (p := 0 < (1 : Int32)) (by decide) (y := (4607182418800017408 : UInt64)) MA0
            have MB := own_f0 (e := (0 : UInt64))
            have SD := own_sides MA MB (own_t2 (own_b1' b_v74)) own_tz D_v76 R9
            refine own_virtual X73 hx hby hZ (y := (⟨"com/example/bidfold/bidfold/Branching", "leansIn", "(ID)Z"⟩ : MethodName)) (y' := (⟨"com/example/bidfold/bidfold/Branching", "leansIn", "(ID)Z"⟩ : MethodName)) (C := "com/example/bidfold/bidfold/Branching") (rest := []) hown (hw _ (List.mem_of_getElem? (i := 34) rfl)) (hw _ (List.mem_of_getElem? (i := 35) rfl)) (notFace_of_selects (args := #[]) (mvT hZ (hw _ (List.mem_of_getElem? (i := 37) rfl)))) (hw _ (List.mem_of_getElem? (i := 37) rfl)) (hw _ (List.mem_of_getElem? (i := 36) rfl)) (hw _ (List.mem_of_getElem? (i := 38) rfl)) (hw _ (List.mem_of_getElem? (i := 2) rfl)) (by decide) (rm40 l Z a0 hw [] b16 v76 b8_17 b10_17 v74 v20 (1 : Int32) (1 : Int32) b4_17 b6_17 (0 : UInt64) v23 (0 : Int32) (1 : Int32) h73 n0 Z0 F_b16_upFalls F_b16_upCounts V_b8_17 V_b10_17 F_b16_downFalls F_b16_downCounts V_b4_17 V_b6_17 (fun _ => MA0.nn) SD.1 SD.2.1 (fun h => absurd h (by decide)) SD.2.2.1) eH73 (by rw [hml]; rfl) (a := b16) E_b16 (argsL := [(.int (0 : Int32)), (.double v76)]) rfl (lenOf pd_3 rfl) rfl at_300 (pc' := 303) rfl (by decide) (W := 0) (Nat.le_of_eq rfl) (by decide) (by decide) (by decide) (fun T77 h77 Lc77 v77r X77 eH77 hQ77 => ?_)
            obtain ⟨rfl, Nq77, rfl⟩ := hQ77
            have N77 := Fr.app N73 Nq77
            dsimp only [Option.toList, List.cons_append, List.nil_append]
            generalize q_r78 : (if dle (FP.dmul (if 0 < (1 : Int32) then (FP.ddiv v74 (FP.i2d (1 : Int32))) else (4607182418800017408 : UInt64)) (FP.dsub (4607182418800017408 : UInt64) v76)) (FP.dmul (if 0 < (0 : Int32) then (FP.ddiv (0 : UInt64) (FP.i2d (0 : Int32))) else (4607182418800017408 : UInt64)) v76) then (1 : Int32) else (0 : Int32)) = r78
            refine own_istore X77 hx hby (L' := #[.val (.int p0), .val (.int p1), .val (.int p2), .val (.long p3), .second, .val (.int (0 : Int32)), .val (.int (1 : Int32)), .val (.int (1 : Int32)), .val (.int (0 : Int32)), .val (.int n5), .val (.int n6), .val (.int n7), .val (.int n8), .val (.int n9), .val (.int n10), .val (.int n11), .val (.int n12), .val (.int n13), .val (.int n14), .val (.int n15), .val (.ref b16), .val (.int r78), .unset, .unset, .unset, .unset, .unset, .unset, .unset, .unset, .unset]) rfl at_303 (pc' := 305) rfl ?_
            refine own_lconst X77 hx hby (v := (0 : Int64)) (by decide) at_305 (pc' := 306) rfl ?_
            refine own_lstore X77 hx hby (L' := #[.val (.int p0), .val (.int p1), .val (.int p2), .val (.long p3), .second, .val (.int (0 : Int32)), .val (.int (1 : Int32)), .val (.int (1 : Int32)), .val (.int (0 : Int32)), .val (.int n5), .val (.int n6), .val (.int n7), .val (.int n8), .val (.int n9), .val (.int n10), .val (.int n11), .val (.int n12), .val (.int n13), .val (.int n14), .val (.int n15), .val (.ref b16), .val (.int r78), .val (.long (0 : Int64)), .second, .unset, .unset, .unset, .unset, .unset, .unset, .unset]) rfl at_306 (pc' := 308) rfl ?_
            refine own_iload X77 hx hby rfl at_308 (pc' := 310) rfl ?_
            refine own_iconst X77 hx hby (v := (1 : Int32)) (by decide) at_310 (pc' := 311) rfl ?_
            refine own_icF X77 hx hby at_311 (by decide) (pc' := 314) rfl ?_
            refine own_lload X77 hx hby rfl at_314 (pc' := 316) rfl ?_
            refine own_ldc2L X77 hx hby hZ hown (hw _ (List.mem_of_getElem? (i := 44) rfl)) at_316 (pc' := 319) rfl ?_
            refine own_iload X77 hx hby rfl at_319 (pc' := 321) rfl ?_
            refine own_i2l X77 hx hby rfl at_321 (pc' := 322) rfl ?_
            refine own_lmul X77 hx hby rfl at_322 (pc' := 323) rfl ?_
            refine own_iconst X77 hx hby (v := (4 : Int32)) (by decide) at_323 (pc' := 324) rfl ?_
            refine own_iload X77 hx hby rfl at_324 (pc' := 326) rfl ?_
            refine own_isub X77 hx hby rfl at_326 (pc' := 327) rfl ?_
            refine own_i2l X77 hx hby rfl at_327 (pc' := 328) rfl ?_
            refine own_ldiv X77 hx hby (own_nzL (own_4q R_n6) (own_4qd R_n6).1) rfl at_328 (pc' := 329) rfl ?_
            refine own_ladd X77 hx hby rfl at_329 (pc' := 330) rfl ?_
            generalize q_n79 : ((0 : Int64) + (((12 : Int64) * (n10.toInt64)) / (((4 : Int32) - n6).toInt64))) = n79
            refine own_lstore X77 hx hby (L' := #[.val (.int p0), .val (.int p1), .val (.int p2), .val (.long p3), .second, .val (.int (0 : Int32)), .val (.int (1 : Int32)), .val (.int (1 : Int32)), .val (.int (0 : Int32)), .val (.int n5), .val (.int n6), .val (.int n7), .val (.int n8), .val (.int n9), .val (.int n10), .val (.int n11), .val (.int n12), .val (.int n13), .val (.int n14), .val (.int n15), .val (.ref b16), .val (.int r78), .val (.long n79), .second, .unset, .unset, .unset, .unset, .unset, .unset, .unset]) rfl at_330 (pc' := 332) rfl ?_
            refine own_iload X77 hx hby rfl at_332 (pc' := 334) rfl ?_
            refine own_iconst X77 hx hby (v := (2 : Int32)) (by decide) at_334 (pc' := 335) rfl ?_
            refine own_icT X77 hx hby at_335 (by decide) (by decide) (pc' := 356) (by decide) ?_
            refine own_lconst X77 hx hby (v := (0 : Int64)) (by decide) at_356 (pc' := 357) rfl ?_
            refine own_lstore X77 hx hby (L' := #[.val (.int p0), .val (.int p1), .val (.int p2), .val (.long p3), .second, .val (.int (0 : Int32)), .val (.int (1 : Int32)), .val (.int (1 : Int32)), .val (.int (0 : Int32)), .val (.int n5), .val (.int n6), .val (.int n7), .val (.int n8), .val (.int n9), .val (.int n10), .val (.int n11), .val (.int n12), .val (.int n13), .val (.int n14), .val (.int n15), .val (.ref b16), .val (.int r78), .val (.long n79), .second, .val (.long (0 : Int64)), .second, .unset, .unset, .unset, .unset, .unset]) rfl at_357 (pc' := 359) rfl ?_
            refine own_iload X77 hx hby rfl at_359 (pc' := 361) rfl ?_
            refine own_iconst X77 hx hby (v := (1 : Int32)) (by decide) at_361 (pc' := 362) rfl ?_
            refine own_icT X77 hx hby at_362 (by decide) (by decide) (pc' := 381) (by decide) ?_
            refine own_iload X77 hx hby rfl at_381 (pc' := 383) rfl ?_
            refine own_iconst X77 hx hby (v := (2 : Int32)) (by decide) at_383 (pc' := 384) rfl ?_
            refine own_icT X77 hx hby at_384 (by decide) (by decide) (pc' := 403) (by decide) ?_
            refine own_iload X77 hx hby rfl at_403 (pc' := 405) rfl ?_
            refine own_ifT X77 hx hby at_405 (by decide) (by decide) (pc' := 414) (by decide) ?_
            refine own_iload X77 hx hby rfl at_414 (pc' := 416) rfl ?_
            refine own_iconst X77 hx hby (v := (1 : Int32)) (by decide) at_416 (pc' := 417) rfl ?_
            refine own_icF X77 hx hby at_417 (by decide) (pc' := 420) rfl ?_
            refine own_ldc2L X77 hx hby hZ hown (hw _ (List.mem_of_getElem? (i := 42) rfl)) at_420 (pc' := 423) rfl ?_
            refine own_lload X77 hx hby rfl at_423 (pc' := 425) rfl ?_
            refine own_lmul X77 hx hby rfl at_425 (pc' := 426) rfl ?_
            refine own_goto X77 hx hby at_426 (by decide) (pc' := 431) (by decide) ?_
            generalize q_n80 : ((2 : Int64) * n79) = n80
            refine own_lstore X77 hx hby (L' := #[.val (.int p0), .val (.int p1), .val (.int p2), .val (.long p3), .second, .val (.int (0 : Int32)), .val (.int (1 : Int32)), .val (.int (1 : Int32)), .val (.int (0 : Int32)), .val (.int n5), .val (.int n6), .val (.int n7), .val (.int n8), .val (.int n9), .val (.int n10), .val (.int n11), .val (.int n12), .val (.int n13), .val (.int n14), .val (.int n15), .val (.ref b16), .val (.int r78), .val (.long n79), .second, .val (.long (0 : Int64)), .second, .val (.long n80), .second, .unset, .unset, .unset]) rfl at_431 (pc' := 433) rfl ?_
            refine own_iload X77 hx hby rfl at_433 (pc' := 435) rfl ?_
            refine own_ifF X77 hx hby at_435 (by decide) (pc' := 438) rfl ?_
            refine own_ldc2L X77 hx hby hZ hown (hw _ (List.mem_of_getElem? (i := 42) rfl)) at_438 (pc' := 441) rfl ?_
            as_aux_lemma =>
              refine own_goto X77 hx hby at_441 (by decide) (pc' := 461) (by decide) ?_
              refine own_lstore X77 hx hby (L' := #[.val (.int p0), .val (.int p1), .val (.int p2), .val (.long p3), .second, .val (.int (0 : Int32)), .val (.int (1 : Int32)), .val (.int (1 : Int32)), .val (.int (0 : Int32)), .val (.int n5), .val (.int n6), .val (.int n7), .val (.int n8), .val (.int n9), .val (.int n10), .val (.int n11), .val (.int n12), .val (.int n13), .val (.int n14), .val (.int n15), .val (.ref b16), .val (.int r78), .val (.long n79), .second, .val (.long (0 : Int64)), .second, .val (.long n80), .second, .val (.long (2 : Int64)), .second, .unset]) rfl at_461 (pc' := 463) rfl ?_
              have tw_n79 := own_tw (k := n10) (own_4q R_n6) (own_4qd R_n6) (own_k10 q_n10)
              have bq_n79 := own_dq (n := (4 - n6.toInt)) (k := n10.toInt) (own_4qd R_n6) (own_k10 q_n10)
              have et_n79 : n79.toInt = (0 + 12 * n10.toInt / (4 - n6.toInt)) := own_ls q_n79 own_e0 tw_n79 (own_w3 own_b0) bq_n79
              have eu : n80.toInt = 2 * (0 + 12 * n10.toInt / (4 - n6.toInt)) := own_l2 q_n80 et_n79 (own_b1' bq_n79)
              have ed := own_e2
              refine own_lload X77 hx hby rfl at_463 (pc' := 465) rfl ?_
              refine own_bipush X77 hx hby (v := (8 : Int32)) (by decide) at_465 (pc' := 467) rfl ?_
              refine own_iload X77 hx hby rfl at_467 (pc' := 469) rfl ?_
              refine own_isub X77 hx hby rfl at_469 (pc' := 470) rfl ?_
              refine own_i2l X77 hx hby rfl at_470 (pc' := 471) rfl ?_
              refine own_lmul X77 hx hby rfl at_471 (pc' := 472) rfl ?_
              refine own_lload X77 hx hby rfl at_472 (pc' := 474) rfl ?_
              refine own_iload X77 hx hby rfl at_474 (pc' := 476) rfl ?_
              refine own_i2l X77 hx hby rfl at_476 (pc' := 477) rfl ?_
              refine own_lmul X77 hx hby rfl at_477 (pc' := 478) rfl ?_
              generalize q_n81 : (n80 * (((8 : Int32) - n5).toInt64)) = n81
              generalize q_n82 : ((2 : Int64) * (n5.toInt64)) = n82
              refine own_lcmp X77 hx hby rfl at_478 (pc' := 479) rfl ?_
              obtain ⟨w83, q_w83⟩ : ∃ z : Int32, (if n82 < n81 then (0 : Int32) else (1 : Int32)) = z := ⟨_, rfl⟩
              refine own_join (S' := T77.setTop (mkF m 487 #[.val (.int p0), .val (.int p1), .val (.int p2), .val (.long p3), .second, .val (.int (0 : Int32)), .val (.int (1 : Int32)), .val (.int (1 : Int32)), .val (.int (0 : Int32)), .val (.int n5), .val (.int n6), .val (.int n7), .val (.int n8), .val (.int n9), .val (.int n10), .val (.int n11), .val (.int n12), .val (.int n13), .val (.int n14), .val (.int n15), .val (.ref b16), .val (.int r78), .val (.long n79), .second, .val (.long (0 : Int64)), .second, .val (.long n80), .second, .val (.long (2 : Int64)), .second, .unset] [(.int w83)])) (fun F' k' => ?_) ?_
              · rw [← q_w83] at k'
                by_cases hc84 : n82 < n81
                · simp only [if_pos hc84] at k'
                  refine own_ifT X77 hx hby at_479 (own_lc_gt_p hc84) (by decide) (pc' := 486) (by decide) ?_
                  refine own_iconst X77 hx hby (v := (0 : Int32)) (by decide) at_486 (pc' := 487) rfl ?_
                  exact k'
                · simp only [if_neg hc84] at k'
                  refine own_ifF X77 hx hby at_479 (own_lc_gt_n hc84) (pc' := 482) rfl ?_
                  refine own_iconst X77 hx hby (v := (1 : Int32)) (by decide) at_482 (pc' := 483) rfl ?_
                  refine own_goto X77 hx hby at_483 (by decide) (pc' := 487) (by decide) ?_
                  exact k'
              refine own_istore X77 hx hby (L' := #[.val (.int p0), .val (.int p1), .val (.int p2), .val (.long p3), .second, .val (.int (0 : Int32)), .val (.int (1 : Int32)), .val (.int (1 : Int32)), .val (.int (0 : Int32)), .val (.int n5), .val (.int n6), .val (.int n7), .val (.int n8), .val (.int n9), .val (.int n10), .val (.int n11), .val (.int n12), .val (.int n13), .val (.int n14), .val (.int n15), .val (.ref b16), .val (.int r78), .val (.long n79), .second, .val (.long (0 : Int64)), .second, .val (.long n80), .second, .val (.long (2 : Int64)), .second, .val (.int w83)]) rfl at_487 (pc' := 489) rfl ?_
              refine own_iload X77 hx hby rfl at_489 (pc' := 491) rfl ?_
              refine own_iload X77 hx hby rfl at_491 (pc' := 493) rfl ?_
              have hk85 : r78 = w83 := own_fin SD.2.2.2 R9 (own_t2 (own_b1' b_v74)) own_tz eu ed q_r78 q_n81 q_n82 q_w83
              refine own_icF X77 hx hby at_493 (own_ic_ne_p hk85) (pc' := 496) rfl ?_
              refine own_iconst X77 hx hby (v := (1 : Int32)) (by decide) at_496 (pc' := 497) rfl ?_
              refine own_goto X77 hx hby at_497 (by decide) (pc' := 501) (by decide) ?_
              exact own_retZ X77 hx hby Bd.notSynchronized Bd.returns (Or.inr rfl) at_501 (by decide) (by decide) eH77 ⟨rfl, N77⟩
          · as_aux_lemma =>
              refine own_iload X73 hx hby rfl at_237 (pc' := 239) rfl ?_
              refine own_iconst X73 hx hby (v := (1 : Int32)) (by decide) at_239 (pc' := 240) rfl ?_
              refine own_icF X73 hx hby at_240 (by decide) (pc' := 243) rfl ?_
              refine own_aload X73 hx hby rfl rfl at_243 (pc' := 245) rfl ?_
              refine own_iload X73 hx hby rfl at_245 (pc' := 247) rfl ?_
              refine own_iconst X73 hx hby (v := (0 : Int32)) (by decide) at_247 (pc' := 248) rfl ?_
              refine own_iload X73 hx hby rfl at_248 (pc' := 250) rfl ?_
              obtain ⟨v86, q_v86⟩ : ∃ z : UInt64, (FP.i2d n8) = z := ⟨_, rfl⟩
              have D_v86 : Dy v86 n8.toInt 0 := q_v86 ▸ dy_i2d n8
              refine own_i2d X73 hx hby q_v86 at_250 (pc' := 251) rfl ?_
              refine own_ldc2D X73 hx hby hZ hown (hw _ (List.mem_of_getElem? (i := 43) rfl)) at_251 (pc' := 254) rfl ?_
              obtain ⟨v87, q_v87⟩ : ∃ z : UInt64, (FP.ddiv v86 (4616189618054758400 : UInt64)) = z := ⟨_, rfl⟩
              have R_n8 := own_q3r q_n8
              have D_v87 : Dy v87 n8.toInt 2 := own_div4 q_v87 D_v86 R_n8
              have nn_v87 := D_v87.nn
              refine own_ddiv X73 hx hby (by rw [q_v87]; exact nn_v87) q_v87 at_254 (pc' := 255) rfl ?_
              refine own_iconst X73 hx hby (v := (3 : Int32)) (by decide) at_255 (pc' := 256) rfl ?_
              refine own_iload X73 hx hby rfl at_256 (pc' := 258) rfl ?_
              refine own_imul X73 hx hby rfl at_258 (pc' := 259) rfl ?_
              obtain ⟨v88, q_v88⟩ : ∃ z : UInt64, (FP.i2d ((3 : Int32) * n12)) = z := ⟨_, rfl⟩
              have D_v88 : Dy v88 (3 * n12.toInt) 0 := q_v88 ▸ (dy_i2d ((3 : Int32) * n12)).to (own_3k (own_k10 q_n12))
              refine own_i2d X73 hx hby q_v88 at_259 (pc' := 260) rfl ?_
              have LU260g := own_g D_v87 R_n8
              have LU260 := own_dn D_v87 R_n8 D_v88 (own_k10 q_n12) own_d0 own_b0
              refine own_virtual X73 hx hby hZ (y := (⟨"com/example/bidfold/bidfold/Branching", "learn", "(IZDD)V"⟩ : MethodName)) (y' := (⟨"com/example/bidfold/bidfold/Branching", "learn", "(IZDD)V"⟩ : MethodName)) (C := "com/example/bidfold/bidfold/Branching") (rest := []) hown (hw _ (List.mem_of_getElem? (i := 26) rfl)) (hw _ (List.mem_of_getElem? (i := 27) rfl)) (notFace_of_selects (args := #[]) (mvT hZ (hw _ (List.mem_of_getElem? (i := 29) rfl)))) (hw _ (List.mem_of_getElem? (i := 29) rfl)) (hw _ (List.mem_of_getElem? (i := 28) rfl)) (hw _ (List.mem_of_getElem? (i := 30) rfl)) (hw _ (List.mem_of_getElem? (i := 2) rfl)) (by decide) (rm300 l Z a0 hw [] b16 v87 v88 b4_17 b6_17 (0 : UInt64) v23 (0 : Int32) (1 : Int32) h73 n0 Z0 F_b16_downFalls F_b16_downCounts V_b4_17 V_b6_17 LU260g.1 LU260g.2 LU260.1 LU260.2.1 g_b4_17 ne_b16_b4_17 (Ne.symm ne_b4_17_b6_17) g_b6_17 ne_b16_b6_17) eH73 (by rw [hml]; rfl) (a := b16) E_b16 (argsL := [(.int (0 : Int32)), (.int (0 : Int32)), (.double v87), (.double v88)]) rfl (lenOf pd_2 rfl) rfl at_260 (pc' := 263) rfl (by decide) (W := 0) (Nat.le_of_eq rfl) (by decide) (by decide) (by decide) (fun T89 h89 Lc89 v89r X89 eH89 hQ89 => ?_)
              obtain ⟨rfl, Nq89, Kq89, gq89_0, gq89_1⟩ := hQ89
              have N89 := Fr.app N73 Nq89
              replace E_b16 := E_b16.keep Kq89
              replace F_b16_downFalls := F_b16_downFalls.keep Kq89 (ninS ne_b16_b4_17 (ninS ne_b16_b6_17 nin0))
              replace F_b16_downCounts := F_b16_downCounts.keep Kq89 (ninS ne_b16_b4_17 (ninS ne_b16_b6_17 nin0))
              replace F_b16_upFalls := F_b16_upFalls.keep Kq89 (ninS ne_b16_b4_17 (ninS ne_b16_b6_17 nin0))
              replace F_b16_upCounts := F_b16_upCounts.keep Kq89 (ninS ne_b16_b4_17 (ninS ne_b16_b6_17 nin0))
              replace E_b4_17 := E_b4_17.keep Kq89
              replace E_b6_17 := E_b6_17.keep Kq89
              replace E_b8_17 := E_b8_17.keep Kq89
              replace V_b8_17 := V_b8_17.keep Kq89 (ninS (Ne.symm ne_b4_17_b8_17) (ninS (Ne.symm ne_b6_17_b8_17) nin0))
              replace E_b10_17 := E_b10_17.keep Kq89
              replace V_b10_17 := V_b10_17.keep Kq89 (ninS (Ne.symm ne_b4_17_b10_17) (ninS (Ne.symm ne_b6_17_b10_17) nin0))
              obtain ⟨v90, q_v90⟩ : ∃ z : UInt64, (FP.dadd (0 : UInt64) (FP.ddiv v88 v87)) = z := ⟨_, rfl⟩
              have V_b4_17 : Ary tr Z h89 b4_17 .double [(.double v90), (.double v23)] := by rw [← q_v90]; exact gq89_0
              rw [show ((0 : Int32) + (1 : Int32)) = (1 : Int32) from by decide] at gq89_1
              have V_b6_17 := gq89_1
              replace Z0 := Nat.le_trans Z0 Kq89.1
              have S_v90 : Dy v90 (0 + 12 * n12.toInt / n8.toInt) 0 := by have q := LU260.2.2; rwa [q_v90] at q
              have b_v90 := own_dq (n := n8.toInt) (k := n12.toInt) R_n8 (own_k10 q_n12)
              refine own_iload X89 hx hby rfl at_263 (pc' := 265) rfl ?_
              refine own_iconst X89 hx hby (v := (2 : Int32)) (by decide) at_265 (pc' := 266) rfl ?_
              refine own_icT X89 hx hby at_266 (by decide) (by decide) (pc' := 289) (by decide) ?_
              refine own_aload X89 hx hby rfl rfl at_289 (pc' := 291) rfl ?_
              refine own_iload X89 hx hby rfl at_291 (pc' := 293) rfl ?_
              refine own_iload X89 hx hby rfl at_293 (pc' := 295) rfl ?_
              obtain ⟨v91, q_v91⟩ : ∃ z : UInt64, (FP.i2d n5) = z := ⟨_, rfl⟩
              have D_v91 : Dy v91 n5.toInt 0 := q_v91 ▸ dy_i2d n5
              refine own_i2d X89 hx hby q_v91 at_295 (pc' := 296) rfl ?_
              refine own_ldc2D X89 hx hby hZ hown (hw _ (List.mem_of_getElem? (i := 33) rfl)) at_296 (pc' := 299) rfl ?_
              obtain ⟨v92, q_v92⟩ : ∃ z : UInt64, (FP.ddiv v91 (4620693217682128896 : UInt64)) = z := ⟨_, rfl⟩
              have R9 := own_r9 q_n5
              have D_v92 : Dy v92 n5.toInt 3 := own_div8 q_v92 D_v91 R9
              have nn_v92 := D_v92.nn
              refine own_ddiv X89 hx hby (by rw [q_v92]; exact nn_v92) q_v92 at_299 (pc' := 300) rfl ?_
              have MA0 := own_f1 S_v74 (own_b1' b_v74)
              have MA := own_ifp (p := 0 < (1 : Int32)) (by decide) (y := (4607182418800017408 : UInt64)) MA0
              have MB0 := own_f1 S_v90 (own_b1' b_v90)
              have MB := own_ifp (p := 0 < (1 : Int32)) (by decide) (y := (4607182418800017408 : UInt64)) MB0
              have SD := own_sides MA MB (own_t2 (own_b1' b_v74)) (own_t2 (own_b1' b_v90)) D_v92 R9
              refine own_virtual X89 hx hby hZ (y := (⟨"com/example/bidfold/bidfold/Branching", "leansIn", "(ID)Z"⟩ : MethodName)) (y' := (⟨"com/example/bidfold/bidfold/Branching", "leansIn", "(ID)Z"⟩ : MethodName)) (C := "com/example/bidfold/bidfold/Branching") (rest := []) hown (hw _ (List.mem_of_getElem? (i := 34) rfl)) (hw _ (List.mem_of_getElem? (i := 35) rfl)) (notFace_of_selects (args := #[]) (mvT hZ (hw _ (List.mem_of_getElem? (i := 37) rfl)))) (hw _ (List.mem_of_getElem? (i := 37) rfl)) (hw _ (List.mem_of_getElem? (i := 36) rfl)) (hw _ (List.mem_of_getElem? (i := 38) rfl)) (hw _ (List.mem_of_getElem? (i := 2) rfl)) (by decide) (rm40 l Z a0 hw [] b16 v92 b8_17 b10_17 v74 v20 (1 : Int32) (1 : Int32) b4_17 b6_17 v90 v23 (1 : Int32) (1 : Int32) h89 n0 Z0 F_b16_upFalls F_b16_upCounts V_b8_17 V_b10_17 F_b16_downFalls F_b16_downCounts V_b4_17 V_b6_17 (fun _ => MA0.nn) SD.1 SD.2.1 (fun _ => MB0.nn) SD.2.2.1) eH89 (by rw [hml]; rfl) (a := b16) E_b16 (argsL := [(.int (0 : Int32)), (.double v92)]) rfl (lenOf pd_3 rfl) rfl at_300 (pc' := 303) rfl (by decide) (W := 0) (Nat.le_of_eq rfl) (by decide) (by decide) (by decide) (fun T93 h93 Lc93 v93r X93 eH93 hQ93 => ?_)
              obtain ⟨rfl, Nq93, rfl⟩ := hQ93
              have N93 := Fr.app N89 Nq93
              dsimp only [Option.toList, List.cons_append, List.nil_append]
              generalize q_r94 : (if dle (FP.dmul (if 0 < (1 : Int32) then (FP.ddiv v74 (FP.i2d (1 : Int32))) else (4607182418800017408 : UInt64)) (FP.dsub (4607182418800017408 : UInt64) v92)) (FP.dmul (if 0 < (1 : Int32) then (FP.ddiv v90 (FP.i2d (1 : Int32))) else (4607182418800017408 : UInt64)) v92) then (1 : Int32) else (0 : Int32)) = r94
              refine own_istore X93 hx hby (L' := #[.val (.int p0), .val (.int p1), .val (.int p2), .val (.long p3), .second, .val (.int (0 : Int32)), .val (.int (1 : Int32)), .val (.int (1 : Int32)), .val (.int (1 : Int32)), .val (.int n5), .val (.int n6), .val (.int n7), .val (.int n8), .val (.int n9), .val (.int n10), .val (.int n11), .val (.int n12), .val (.int n13), .val (.int n14), .val (.int n15), .val (.ref b16), .val (.int r94), .unset, .unset, .unset, .unset, .unset, .unset, .unset, .unset, .unset]) rfl at_303 (pc' := 305) rfl ?_
              refine own_lconst X93 hx hby (v := (0 : Int64)) (by decide) at_305 (pc' := 306) rfl ?_
              refine own_lstore X93 hx hby (L' := #[.val (.int p0), .val (.int p1), .val (.int p2), .val (.long p3), .second, .val (.int (0 : Int32)), .val (.int (1 : Int32)), .val (.int (1 : Int32)), .val (.int (1 : Int32)), .val (.int n5), .val (.int n6), .val (.int n7), .val (.int n8), .val (.int n9), .val (.int n10), .val (.int n11), .val (.int n12), .val (.int n13), .val (.int n14), .val (.int n15), .val (.ref b16), .val (.int r94), .val (.long (0 : Int64)), .second, .unset, .unset, .unset, .unset, .unset, .unset, .unset]) rfl at_306 (pc' := 308) rfl ?_
              refine own_iload X93 hx hby rfl at_308 (pc' := 310) rfl ?_
              refine own_iconst X93 hx hby (v := (1 : Int32)) (by decide) at_310 (pc' := 311) rfl ?_
              refine own_icF X93 hx hby at_311 (by decide) (pc' := 314) rfl ?_
              refine own_lload X93 hx hby rfl at_314 (pc' := 316) rfl ?_
              refine own_ldc2L X93 hx hby hZ hown (hw _ (List.mem_of_getElem? (i := 44) rfl)) at_316 (pc' := 319) rfl ?_
              refine own_iload X93 hx hby rfl at_319 (pc' := 321) rfl ?_
              refine own_i2l X93 hx hby rfl at_321 (pc' := 322) rfl ?_
              refine own_lmul X93 hx hby rfl at_322 (pc' := 323) rfl ?_
              refine own_iconst X93 hx hby (v := (4 : Int32)) (by decide) at_323 (pc' := 324) rfl ?_
              refine own_iload X93 hx hby rfl at_324 (pc' := 326) rfl ?_
              refine own_isub X93 hx hby rfl at_326 (pc' := 327) rfl ?_
              refine own_i2l X93 hx hby rfl at_327 (pc' := 328) rfl ?_
              refine own_ldiv X93 hx hby (own_nzL (own_4q R_n6) (own_4qd R_n6).1) rfl at_328 (pc' := 329) rfl ?_
              refine own_ladd X93 hx hby rfl at_329 (pc' := 330) rfl ?_
              generalize q_n95 : ((0 : Int64) + (((12 : Int64) * (n10.toInt64)) / (((4 : Int32) - n6).toInt64))) = n95
              refine own_lstore X93 hx hby (L' := #[.val (.int p0), .val (.int p1), .val (.int p2), .val (.long p3), .second, .val (.int (0 : Int32)), .val (.int (1 : Int32)), .val (.int (1 : Int32)), .val (.int (1 : Int32)), .val (.int n5), .val (.int n6), .val (.int n7), .val (.int n8), .val (.int n9), .val (.int n10), .val (.int n11), .val (.int n12), .val (.int n13), .val (.int n14), .val (.int n15), .val (.ref b16), .val (.int r94), .val (.long n95), .second, .unset, .unset, .unset, .unset, .unset, .unset, .unset]) rfl at_330 (pc' := 332) rfl ?_
              refine own_iload X93 hx hby rfl at_332 (pc' := 334) rfl ?_
              refine own_iconst X93 hx hby (v := (2 : Int32)) (by decide) at_334 (pc' := 335) rfl ?_
              refine own_icT X93 hx hby at_335 (by decide) (by decide) (pc' := 356) (by decide) ?_
              refine own_lconst X93 hx hby (v := (0 : Int64)) (by decide) at_356 (pc' := 357) rfl ?_
              refine own_lstore X93 hx hby (L' := #[.val (.int p0), .val (.int p1), .val (.int p2), .val (.long p3), .second, .val (.int (0 : Int32)), .val (.int (1 : Int32)), .val (.int (1 : Int32)), .val (.int (1 : Int32)), .val (.int n5), .val (.int n6), .val (.int n7), .val (.int n8), .val (.int n9), .val (.int n10), .val (.int n11), .val (.int n12), .val (.int n13), .val (.int n14), .val (.int n15), .val (.ref b16), .val (.int r94), .val (.long n95), .second, .val (.long (0 : Int64)), .second, .unset, .unset, .unset, .unset, .unset]) rfl at_357 (pc' := 359) rfl ?_
              refine own_iload X93 hx hby rfl at_359 (pc' := 361) rfl ?_
              refine own_iconst X93 hx hby (v := (1 : Int32)) (by decide) at_361 (pc' := 362) rfl ?_
              refine own_icF X93 hx hby at_362 (by decide) (pc' := 365) rfl ?_
              refine own_lload X93 hx hby rfl at_365 (pc' := 367) rfl ?_
              refine own_ldc2L X93 hx hby hZ hown (hw _ (List.mem_of_getElem? (i := 44) rfl)) at_367 (pc' := 370) rfl ?_
              refine own_iload X93 hx hby rfl at_370 (pc' := 372) rfl ?_
              refine own_i2l X93 hx hby rfl at_372 (pc' := 373) rfl ?_
              refine own_lmul X93 hx hby rfl at_373 (pc' := 374) rfl ?_
              refine own_iload X93 hx hby rfl at_374 (pc' := 376) rfl ?_
              refine own_i2l X93 hx hby rfl at_376 (pc' := 377) rfl ?_
              refine own_ldiv X93 hx hby (own_nzL (c_i2l n8) R_n8.1) rfl at_377 (pc' := 378) rfl ?_
              refine own_ladd X93 hx hby rfl at_378 (pc' := 379) rfl ?_
              generalize q_n96 : ((0 : Int64) + (((12 : Int64) * (n12.toInt64)) / (n8.toInt64))) = n96
              refine own_lstore X93 hx hby (L' := #[.val (.int p0), .val (.int p1), .val (.int p2), .val (.long p3), .second, .val (.int (0 : Int32)), .val (.int (1 : Int32)), .val (.int (1 : Int32)), .val (.int (1 : Int32)), .val (.int n5), .val (.int n6), .val (.int n7), .val (.int n8), .val (.int n9), .val (.int n10), .val (.int n11), .val (.int n12), .val (.int n13), .val (.int n14), .val (.int n15), .val (.ref b16), .val (.int r94), .val (.long n95), .second, .val (.long n96), .second, .unset, .unset, .unset, .unset, .unset]) rfl at_379 (pc' := 381) rfl ?_
              refine own_iload X93 hx hby rfl at_381 (pc' := 383) rfl ?_
              refine own_iconst X93 hx hby (v := (2 : Int32)) (by decide) at_383 (pc' := 384) rfl ?_
              refine own_icT X93 hx hby at_384 (by decide) (by decide) (pc' := 403) (by decide) ?_
              refine own_iload X93 hx hby rfl at_403 (pc' := 405) rfl ?_
              refine own_ifT X93 hx hby at_405 (by decide) (by decide) (pc' := 414) (by decide) ?_
              refine own_iload X93 hx hby rfl at_414 (pc' := 416) rfl ?_
              refine own_iconst X93 hx hby (v := (1 : Int32)) (by decide) at_416 (pc' := 417) rfl ?_
              refine own_icF X93 hx hby at_417 (by decide) (pc' := 420) rfl ?_
              refine own_ldc2L X93 hx hby hZ hown (hw _ (List.mem_of_getElem? (i := 42) rfl)) at_420 (pc' := 423) rfl ?_
              refine own_lload X93 hx hby rfl at_423 (pc' := 425) rfl ?_
              refine own_lmul X93 hx hby rfl at_425 (pc' := 426) rfl ?_
              refine own_goto X93 hx hby at_426 (by decide) (pc' := 431) (by decide) ?_
              generalize q_n97 : ((2 : Int64) * n95) = n97
              refine own_lstore X93 hx hby (L' := #[.val (.int p0), .val (.int p1), .val (.int p2), .val (.long p3), .second, .val (.int (0 : Int32)), .val (.int (1 : Int32)), .val (.int (1 : Int32)), .val (.int (1 : Int32)), .val (.int n5), .val (.int n6), .val (.int n7), .val (.int n8), .val (.int n9), .val (.int n10), .val (.int n11), .val (.int n12), .val (.int n13), .val (.int n14), .val (.int n15), .val (.ref b16), .val (.int r94), .val (.long n95), .second, .val (.long n96), .second, .val (.long n97), .second, .unset, .unset, .unset]) rfl at_431 (pc' := 433) rfl ?_
              as_aux_lemma =>
                refine own_iload X93 hx hby rfl at_433 (pc' := 435) rfl ?_
                refine own_ifT X93 hx hby at_435 (by decide) (by decide) (pc' := 444) (by decide) ?_
                refine own_iload X93 hx hby rfl at_444 (pc' := 446) rfl ?_
                refine own_iconst X93 hx hby (v := (1 : Int32)) (by decide) at_446 (pc' := 447) rfl ?_
                refine own_icF X93 hx hby at_447 (by decide) (pc' := 450) rfl ?_
                refine own_ldc2L X93 hx hby hZ hown (hw _ (List.mem_of_getElem? (i := 42) rfl)) at_450 (pc' := 453) rfl ?_
                refine own_lload X93 hx hby rfl at_453 (pc' := 455) rfl ?_
                refine own_lmul X93 hx hby rfl at_455 (pc' := 456) rfl ?_
                refine own_goto X93 hx hby at_456 (by decide) (pc' := 461) (by decide) ?_
                generalize q_n98 : ((2 : Int64) * n96) = n98
                refine own_lstore X93 hx hby (L' := #[.val (.int p0), .val (.int p1), .val (.int p2), .val (.long p3), .second, .val (.int (0 : Int32)), .val (.int (1 : Int32)), .val (.int (1 : Int32)), .val (.int (1 : Int32)), .val (.int n5), .val (.int n6), .val (.int n7), .val (.int n8), .val (.int n9), .val (.int n10), .val (.int n11), .val (.int n12), .val (.int n13), .val (.int n14), .val (.int n15), .val (.ref b16), .val (.int r94), .val (.long n95), .second, .val (.long n96), .second, .val (.long n97), .second, .val (.long n98), .second, .unset]) rfl at_461 (pc' := 463) rfl ?_
                have tw_n95 := own_tw (k := n10) (own_4q R_n6) (own_4qd R_n6) (own_k10 q_n10)
                have bq_n95 := own_dq (n := (4 - n6.toInt)) (k := n10.toInt) (own_4qd R_n6) (own_k10 q_n10)
                have et_n95 : n95.toInt = (0 + 12 * n10.toInt / (4 - n6.toInt)) := own_ls q_n95 own_e0 tw_n95 (own_w3 own_b0) bq_n95
                have eu : n97.toInt = 2 * (0 + 12 * n10.toInt / (4 - n6.toInt)) := own_l2 q_n97 et_n95 (own_b1' bq_n95)
                have tw_n96 := own_tw (k := n12) (c_i2l n8) R_n8 (own_k10 q_n12)
                have bq_n96 := own_dq (n := n8.toInt) (k := n12.toInt) R_n8 (own_k10 q_n12)
                have et_n96 : n96.toInt = (0 + 12 * n12.toInt / n8.toInt) := own_ls q_n96 own_e0 tw_n96 (own_w3 own_b0) bq_n96
                have ed : n98.toInt = 2 * (0 + 12 * n12.toInt / n8.toInt) := own_l2 q_n98 et_n96 (own_b1' bq_n96)
                refine own_lload X93 hx hby rfl at_463 (pc' := 465) rfl ?_
                refine own_bipush X93 hx hby (v := (8 : Int32)) (by decide) at_465 (pc' := 467) rfl ?_
                refine own_iload X93 hx hby rfl at_467 (pc' := 469) rfl ?_
                refine own_isub X93 hx hby rfl at_469 (pc' := 470) rfl ?_
                refine own_i2l X93 hx hby rfl at_470 (pc' := 471) rfl ?_
                refine own_lmul X93 hx hby rfl at_471 (pc' := 472) rfl ?_
                refine own_lload X93 hx hby rfl at_472 (pc' := 474) rfl ?_
                refine own_iload X93 hx hby rfl at_474 (pc' := 476) rfl ?_
                refine own_i2l X93 hx hby rfl at_476 (pc' := 477) rfl ?_
                refine own_lmul X93 hx hby rfl at_477 (pc' := 478) rfl ?_
                generalize q_n99 : (n97 * (((8 : Int32) - n5).toInt64)) = n99
                generalize q_n100 : (n98 * (n5.toInt64)) = n100
                refine own_lcmp X93 hx hby rfl at_478 (pc' := 479) rfl ?_
                obtain ⟨w101, q_w101⟩ : ∃ z : Int32, (if n100 < n99 then (0 : Int32) else (1 : Int32)) = z := ⟨_, rfl⟩
                refine own_join (S' := T93.setTop (mkF m 487 #[.val (.int p0), .val (.int p1), .val (.int p2), .val (.long p3), .second, .val (.int (0 : Int32)), .val (.int (1 : Int32)), .val (.int (1 : Int32)), .val (.int (1 : Int32)), .val (.int n5), .val (.int n6), .val (.int n7), .val (.int n8), .val (.int n9), .val (.int n10), .val (.int n11), .val (.int n12), .val (.int n13), .val (.int n14), .val (.int n15), .val (.ref b16), .val (.int r94), .val (.long n95), .second, .val (.long n96), .second, .val (.long n97), .second, .val (.long n98), .second, .unset] [(.int w101)])) (fun F' k' => ?_) ?_
                · rw [← q_w101] at k'
                  by_cases hc102 : n100 < n99
                  · simp only [if_pos hc102] at k'
                    refine own_ifT X93 hx hby at_479 (own_lc_gt_p hc102) (by decide) (pc' := 486) (by decide) ?_
                    refine own_iconst X93 hx hby (v := (0 : Int32)) (by decide) at_486 (pc' := 487) rfl ?_
                    exact k'
                  · simp only [if_neg hc102] at k'
                    refine own_ifF X93 hx hby at_479 (own_lc_gt_n hc102) (pc' := 482) rfl ?_
                    refine own_iconst X93 hx hby (v := (1 : Int32)) (by decide) at_482 (pc' := 483) rfl ?_
                    refine own_goto X93 hx hby at_483 (by decide) (pc' := 487) (by decide) ?_
                    exact k'
                refine own_istore X93 hx hby (L' := #[.val (.int p0), .val (.int p1), .val (.int p2), .val (.long p3), .second, .val (.int (0 : Int32)), .val (.int (1 : Int32)), .val (.int (1 : Int32)), .val (.int (1 : Int32)), .val (.int n5), .val (.int n6), .val (.int n7), .val (.int n8), .val (.int n9), .val (.int n10), .val (.int n11), .val (.int n12), .val (.int n13), .val (.int n14), .val (.int n15), .val (.ref b16), .val (.int r94), .val (.long n95), .second, .val (.long n96), .second, .val (.long n97), .second, .val (.long n98), .second, .val (.int w101)]) rfl at_487 (pc' := 489) rfl ?_
                refine own_iload X93 hx hby rfl at_489 (pc' := 491) rfl ?_
                refine own_iload X93 hx hby rfl at_491 (pc' := 493) rfl ?_
                have hk103 : r94 = w101 := own_fin SD.2.2.2 R9 (own_t2 (own_b1' b_v74)) (own_t2 (own_b1' b_v90)) eu ed q_r94 q_n99 q_n100 q_w101
                refine own_icF X93 hx hby at_493 (own_ic_ne_p hk103) (pc' := 496) rfl ?_
                refine own_iconst X93 hx hby (v := (1 : Int32)) (by decide) at_496 (pc' := 497) rfl ?_
                refine own_goto X93 hx hby at_497 (by decide) (pc' := 501) (by decide) ?_
                exact own_retZ X93 hx hby Bd.notSynchronized Bd.returns (Or.inr rfl) at_501 (by decide) (by decide) eH93 ⟨rfl, N93⟩
          · as_aux_lemma =>
              refine own_iload X73 hx hby rfl at_237 (pc' := 239) rfl ?_
              refine own_iconst X73 hx hby (v := (1 : Int32)) (by decide) at_239 (pc' := 240) rfl ?_
              refine own_icF X73 hx hby at_240 (by decide) (pc' := 243) rfl ?_
              refine own_aload X73 hx hby rfl rfl at_243 (pc' := 245) rfl ?_
              refine own_iload X73 hx hby rfl at_245 (pc' := 247) rfl ?_
              refine own_iconst X73 hx hby (v := (0 : Int32)) (by decide) at_247 (pc' := 248) rfl ?_
              refine own_iload X73 hx hby rfl at_248 (pc' := 250) rfl ?_
              obtain ⟨v104, q_v104⟩ : ∃ z : UInt64, (FP.i2d n8) = z := ⟨_, rfl⟩
              have D_v104 : Dy v104 n8.toInt 0 := q_v104 ▸ dy_i2d n8
              refine own_i2d X73 hx hby q_v104 at_250 (pc' := 251) rfl ?_
              refine own_ldc2D X73 hx hby hZ hown (hw _ (List.mem_of_getElem? (i := 43) rfl)) at_251 (pc' := 254) rfl ?_
              obtain ⟨v105, q_v105⟩ : ∃ z : UInt64, (FP.ddiv v104 (4616189618054758400 : UInt64)) = z := ⟨_, rfl⟩
              have R_n8 := own_q3r q_n8
              have D_v105 : Dy v105 n8.toInt 2 := own_div4 q_v105 D_v104 R_n8
              have nn_v105 := D_v105.nn
              refine own_ddiv X73 hx hby (by rw [q_v105]; exact nn_v105) q_v105 at_254 (pc' := 255) rfl ?_
              refine own_iconst X73 hx hby (v := (3 : Int32)) (by decide) at_255 (pc' := 256) rfl ?_
              refine own_iload X73 hx hby rfl at_256 (pc' := 258) rfl ?_
              refine own_imul X73 hx hby rfl at_258 (pc' := 259) rfl ?_
              obtain ⟨v106, q_v106⟩ : ∃ z : UInt64, (FP.i2d ((3 : Int32) * n12)) = z := ⟨_, rfl⟩
              have D_v106 : Dy v106 (3 * n12.toInt) 0 := q_v106 ▸ (dy_i2d ((3 : Int32) * n12)).to (own_3k (own_k10 q_n12))
              refine own_i2d X73 hx hby q_v106 at_259 (pc' := 260) rfl ?_
              have LU260g := own_g D_v105 R_n8
              have LU260 := own_dn D_v105 R_n8 D_v106 (own_k10 q_n12) own_d0 own_b0
              refine own_virtual X73 hx hby hZ (y := (⟨"com/example/bidfold/bidfold/Branching", "learn", "(IZDD)V"⟩ : MethodName)) (y' := (⟨"com/example/bidfold/bidfold/Branching", "learn", "(IZDD)V"⟩ : MethodName)) (C := "com/example/bidfold/bidfold/Branching") (rest := []) hown (hw _ (List.mem_of_getElem? (i := 26) rfl)) (hw _ (List.mem_of_getElem? (i := 27) rfl)) (notFace_of_selects (args := #[]) (mvT hZ (hw _ (List.mem_of_getElem? (i := 29) rfl)))) (hw _ (List.mem_of_getElem? (i := 29) rfl)) (hw _ (List.mem_of_getElem? (i := 28) rfl)) (hw _ (List.mem_of_getElem? (i := 30) rfl)) (hw _ (List.mem_of_getElem? (i := 2) rfl)) (by decide) (rm300 l Z a0 hw [] b16 v105 v106 b4_17 b6_17 (0 : UInt64) v23 (0 : Int32) (1 : Int32) h73 n0 Z0 F_b16_downFalls F_b16_downCounts V_b4_17 V_b6_17 LU260g.1 LU260g.2 LU260.1 LU260.2.1 g_b4_17 ne_b16_b4_17 (Ne.symm ne_b4_17_b6_17) g_b6_17 ne_b16_b6_17) eH73 (by rw [hml]; rfl) (a := b16) E_b16 (argsL := [(.int (0 : Int32)), (.int (0 : Int32)), (.double v105), (.double v106)]) rfl (lenOf pd_2 rfl) rfl at_260 (pc' := 263) rfl (by decide) (W := 0) (Nat.le_of_eq rfl) (by decide) (by decide) (by decide) (fun T107 h107 Lc107 v107r X107 eH107 hQ107 => ?_)
              obtain ⟨rfl, Nq107, Kq107, gq107_0, gq107_1⟩ := hQ107
              have N107 := Fr.app N73 Nq107
              replace E_b16 := E_b16.keep Kq107
              replace F_b16_downFalls := F_b16_downFalls.keep Kq107 (ninS ne_b16_b4_17 (ninS ne_b16_b6_17 nin0))
              replace F_b16_downCounts := F_b16_downCounts.keep Kq107 (ninS ne_b16_b4_17 (ninS ne_b16_b6_17 nin0))
              replace F_b16_upFalls := F_b16_upFalls.keep Kq107 (ninS ne_b16_b4_17 (ninS ne_b16_b6_17 nin0))
              replace F_b16_upCounts := F_b16_upCounts.keep Kq107 (ninS ne_b16_b4_17 (ninS ne_b16_b6_17 nin0))
              replace E_b4_17 := E_b4_17.keep Kq107
              replace E_b6_17 := E_b6_17.keep Kq107
              replace E_b8_17 := E_b8_17.keep Kq107
              replace V_b8_17 := V_b8_17.keep Kq107 (ninS (Ne.symm ne_b4_17_b8_17) (ninS (Ne.symm ne_b6_17_b8_17) nin0))
              replace E_b10_17 := E_b10_17.keep Kq107
              replace V_b10_17 := V_b10_17.keep Kq107 (ninS (Ne.symm ne_b4_17_b10_17) (ninS (Ne.symm ne_b6_17_b10_17) nin0))
              obtain ⟨v108, q_v108⟩ : ∃ z : UInt64, (FP.dadd (0 : UInt64) (FP.ddiv v106 v105)) = z := ⟨_, rfl⟩
              have V_b4_17 : Ary tr Z h107 b4_17 .double [(.double v108), (.double v23)] := by rw [← q_v108]; exact gq107_0
              rw [show ((0 : Int32) + (1 : Int32)) = (1 : Int32) from by decide] at gq107_1
              have V_b6_17 := gq107_1
              replace Z0 := Nat.le_trans Z0 Kq107.1
              have S_v108 : Dy v108 (0 + 12 * n12.toInt / n8.toInt) 0 := by have q := LU260.2.2; rwa [q_v108] at q
              have b_v108 := own_dq (n := n8.toInt) (k := n12.toInt) R_n8 (own_k10 q_n12)
              refine own_iload X107 hx hby rfl at_263 (pc' := 265) rfl ?_
              refine own_iconst X107 hx hby (v := (2 : Int32)) (by decide) at_265 (pc' := 266) rfl ?_
              refine own_icF X107 hx hby at_266 (by decide) (pc' := 269) rfl ?_
              refine own_aload X107 hx hby rfl rfl at_269 (pc' := 271) rfl ?_
              refine own_iload X107 hx hby rfl at_271 (pc' := 273) rfl ?_
              refine own_iconst X107 hx hby (v := (0 : Int32)) (by decide) at_273 (pc' := 274) rfl ?_
              refine own_iload X107 hx hby rfl at_274 (pc' := 276) rfl ?_
              obtain ⟨v109, q_v109⟩ : ∃ z : UInt64, (FP.i2d n9) = z := ⟨_, rfl⟩
              have D_v109 : Dy v109 n9.toInt 0 := q_v109 ▸ dy_i2d n9
              refine own_i2d X107 hx hby q_v109 at_276 (pc' := 277) rfl ?_
              refine own_ldc2D X107 hx hby hZ hown (hw _ (List.mem_of_getElem? (i := 43) rfl)) at_277 (pc' := 280) rfl ?_
              obtain ⟨v110, q_v110⟩ : ∃ z : UInt64, (FP.ddiv v109 (4616189618054758400 : UInt64)) = z := ⟨_, rfl⟩
              have R_n9 := own_q3r q_n9
              have D_v110 : Dy v110 n9.toInt 2 := own_div4 q_v110 D_v109 R_n9
              have nn_v110 := D_v110.nn
              refine own_ddiv X107 hx hby (by rw [q_v110]; exact nn_v110) q_v110 at_280 (pc' := 281) rfl ?_
              refine own_iconst X107 hx hby (v := (3 : Int32)) (by decide) at_281 (pc' := 282) rfl ?_
              refine own_iload X107 hx hby rfl at_282 (pc' := 284) rfl ?_
              refine own_imul X107 hx hby rfl at_284 (pc' := 285) rfl ?_
              obtain ⟨v111, q_v111⟩ : ∃ z : UInt64, (FP.i2d ((3 : Int32) * n13)) = z := ⟨_, rfl⟩
              have D_v111 : Dy v111 (3 * n13.toInt) 0 := q_v111 ▸ (dy_i2d ((3 : Int32) * n13)).to (own_3k (own_k10 q_n13))
              refine own_i2d X107 hx hby q_v111 at_285 (pc' := 286) rfl ?_
              have LU286g := own_g D_v110 R_n9
              have LU286 := own_dn D_v110 R_n9 D_v111 (own_k10 q_n13) S_v108 (own_b1 b_v108)
              refine own_virtual X107 hx hby hZ (y := (⟨"com/example/bidfold/bidfold/Branching", "learn", "(IZDD)V"⟩ : MethodName)) (y' := (⟨"com/example/bidfold/bidfold/Branching", "learn", "(IZDD)V"⟩ : MethodName)) (C := "com/example/bidfold/bidfold/Branching") (rest := []) hown (hw _ (List.mem_of_getElem? (i := 26) rfl)) (hw _ (List.mem_of_getElem? (i := 27) rfl)) (notFace_of_selects (args := #[]) (mvT hZ (hw _ (List.mem_of_getElem? (i := 29) rfl)))) (hw _ (List.mem_of_getElem? (i := 29) rfl)) (hw _ (List.mem_of_getElem? (i := 28) rfl)) (hw _ (List.mem_of_getElem? (i := 30) rfl)) (hw _ (List.mem_of_getElem? (i := 2) rfl)) (by decide) (rm300 l Z a0 hw [] b16 v110 v111 b4_17 b6_17 v108 v23 (1 : Int32) (1 : Int32) h107 n0 Z0 F_b16_downFalls F_b16_downCounts V_b4_17 V_b6_17 LU286g.1 LU286g.2 LU286.1 LU286.2.1 g_b4_17 ne_b16_b4_17 (Ne.symm ne_b4_17_b6_17) g_b6_17 ne_b16_b6_17) eH107 (by rw [hml]; rfl) (a := b16) E_b16 (argsL := [(.int (0 : Int32)), (.int (0 : Int32)), (.double v110), (.double v111)]) rfl (lenOf pd_2 rfl) rfl at_286 (pc' := 289) rfl (by decide) (W := 0) (Nat.le_of_eq rfl) (by decide) (by decide) (by decide) (fun T112 h112 Lc112 v112r X112 eH112 hQ112 => ?_)
              obtain ⟨rfl, Nq112, Kq112, gq112_0, gq112_1⟩ := hQ112
              have N112 := Fr.app N107 Nq112
              replace E_b16 := E_b16.keep Kq112
              replace F_b16_downFalls := F_b16_downFalls.keep Kq112 (ninS ne_b16_b4_17 (ninS ne_b16_b6_17 nin0))
              replace F_b16_downCounts := F_b16_downCounts.keep Kq112 (ninS ne_b16_b4_17 (ninS ne_b16_b6_17 nin0))
              replace F_b16_upFalls := F_b16_upFalls.keep Kq112 (ninS ne_b16_b4_17 (ninS ne_b16_b6_17 nin0))
              replace F_b16_upCounts := F_b16_upCounts.keep Kq112 (ninS ne_b16_b4_17 (ninS ne_b16_b6_17 nin0))
              replace E_b4_17 := E_b4_17.keep Kq112
              replace E_b6_17 := E_b6_17.keep Kq112
              replace E_b8_17 := E_b8_17.keep Kq112
              replace V_b8_17 := V_b8_17.keep Kq112 (ninS (Ne.symm ne_b4_17_b8_17) (ninS (Ne.symm ne_b6_17_b8_17) nin0))
              replace E_b10_17 := E_b10_17.keep Kq112
              replace V_b10_17 := V_b10_17.keep Kq112 (ninS (Ne.symm ne_b4_17_b10_17) (ninS (Ne.symm ne_b6_17_b10_17) nin0))
              obtain ⟨v113, q_v113⟩ : ∃ z : UInt64, (FP.dadd v108 (FP.ddiv v111 v110)) = z := ⟨_, rfl⟩
              have V_b4_17 : Ary tr Z h112 b4_17 .double [(.double v113), (.double v23)] := by rw [← q_v113]; exact gq112_0
              rw [show ((1 : Int32) + (1 : Int32)) = (2 : Int32) from by decide] at gq112_1
              have V_b6_17 := gq112_1
              replace Z0 := Nat.le_trans Z0 Kq112.1
              have S_v113 : Dy v113 ((0 + 12 * n12.toInt / n8.toInt) + 12 * n13.toInt / n9.toInt) 0 := by have q := LU286.2.2; rwa [q_v113] at q
              have b_v113 := own_dq (n := n9.toInt) (k := n13.toInt) R_n9 (own_k10 q_n13)
              refine own_aload X112 hx hby rfl rfl at_289 (pc' := 291) rfl ?_
              refine own_iload X112 hx hby rfl at_291 (pc' := 293) rfl ?_
              refine own_iload X112 hx hby rfl at_293 (pc' := 295) rfl ?_
              obtain ⟨v114, q_v114⟩ : ∃ z : UInt64, (FP.i2d n5) = z := ⟨_, rfl⟩
              have D_v114 : Dy v114 n5.toInt 0 := q_v114 ▸ dy_i2d n5
              refine own_i2d X112 hx hby q_v114 at_295 (pc' := 296) rfl ?_
              refine own_ldc2D X112 hx hby hZ hown (hw _ (List.mem_of_getElem? (i := 33) rfl)) at_296 (pc' := 299) rfl ?_
              obtain ⟨v115, q_v115⟩ : ∃ z : UInt64, (FP.ddiv v114 (4620693217682128896 : UInt64)) = z := ⟨_, rfl⟩
              have R9 := own_r9 q_n5
              have D_v115 : Dy v115 n5.toInt 3 := own_div8 q_v115 D_v114 R9
              have nn_v115 := D_v115.nn
              refine own_ddiv X112 hx hby (by rw [q_v115]; exact nn_v115) q_v115 at_299 (pc' := 300) rfl ?_
              have MA0 := own_f1 S_v74 (own_b1' b_v74)
              have MA := own_ifp (p := 0 < (1 : Int32)) (by decide) (y := (4607182418800017408 : UInt64)) MA0
              have MB0 := own_f2 S_v113 (own_b2 b_v108 b_v113)
              have MB := own_ifp (p := 0 < (2 : Int32)) (by decide) (y := (4607182418800017408 : UInt64)) MB0
              have SD := own_sides MA MB (own_t2 (own_b1' b_v74)) (own_t1 (own_b2 b_v108 b_v113)) D_v115 R9
              refine own_virtual X112 hx hby hZ (y := (⟨"com/example/bidfold/bidfold/Branching", "leansIn", "(ID)Z"⟩ : MethodName)) (y' := (⟨"com/example/bidfold/bidfold/Branching", "leansIn", "(ID)Z"⟩ : MethodName)) (C := "com/example/bidfold/bidfold/Branching") (rest := []) hown (hw _ (List.mem_of_getElem? (i := 34) rfl)) (hw _ (List.mem_of_getElem? (i := 35) rfl)) (notFace_of_selects (args := #[]) (mvT hZ (hw _ (List.mem_of_getElem? (i := 37) rfl)))) (hw _ (List.mem_of_getElem? (i := 37) rfl)) (hw _ (List.mem_of_getElem? (i := 36) rfl)) (hw _ (List.mem_of_getElem? (i := 38) rfl)) (hw _ (List.mem_of_getElem? (i := 2) rfl)) (by decide) (rm40 l Z a0 hw [] b16 v115 b8_17 b10_17 v74 v20 (1 : Int32) (1 : Int32) b4_17 b6_17 v113 v23 (2 : Int32) (1 : Int32) h112 n0 Z0 F_b16_upFalls F_b16_upCounts V_b8_17 V_b10_17 F_b16_downFalls F_b16_downCounts V_b4_17 V_b6_17 (fun _ => MA0.nn) SD.1 SD.2.1 (fun _ => MB0.nn) SD.2.2.1) eH112 (by rw [hml]; rfl) (a := b16) E_b16 (argsL := [(.int (0 : Int32)), (.double v115)]) rfl (lenOf pd_3 rfl) rfl at_300 (pc' := 303) rfl (by decide) (W := 0) (Nat.le_of_eq rfl) (by decide) (by decide) (by decide) (fun T116 h116 Lc116 v116r X116 eH116 hQ116 => ?_)
              obtain ⟨rfl, Nq116, rfl⟩ := hQ116
              have N116 := Fr.app N112 Nq116
              dsimp only [Option.toList, List.cons_append, List.nil_append]
              generalize q_r117 : (if dle (FP.dmul (if 0 < (1 : Int32) then (FP.ddiv v74 (FP.i2d (1 : Int32))) else (4607182418800017408 : UInt64)) (FP.dsub (4607182418800017408 : UInt64) v115)) (FP.dmul (if 0 < (2 : Int32) then (FP.ddiv v113 (FP.i2d (2 : Int32))) else (4607182418800017408 : UInt64)) v115) then (1 : Int32) else (0 : Int32)) = r117
              refine own_istore X116 hx hby (L' := #[.val (.int p0), .val (.int p1), .val (.int p2), .val (.long p3), .second, .val (.int (0 : Int32)), .val (.int (1 : Int32)), .val (.int (1 : Int32)), .val (.int (2 : Int32)), .val (.int n5), .val (.int n6), .val (.int n7), .val (.int n8), .val (.int n9), .val (.int n10), .val (.int n11), .val (.int n12), .val (.int n13), .val (.int n14), .val (.int n15), .val (.ref b16), .val (.int r117), .unset, .unset, .unset, .unset, .unset, .unset, .unset, .unset, .unset]) rfl at_303 (pc' := 305) rfl ?_
              refine own_lconst X116 hx hby (v := (0 : Int64)) (by decide) at_305 (pc' := 306) rfl ?_
              refine own_lstore X116 hx hby (L' := #[.val (.int p0), .val (.int p1), .val (.int p2), .val (.long p3), .second, .val (.int (0 : Int32)), .val (.int (1 : Int32)), .val (.int (1 : Int32)), .val (.int (2 : Int32)), .val (.int n5), .val (.int n6), .val (.int n7), .val (.int n8), .val (.int n9), .val (.int n10), .val (.int n11), .val (.int n12), .val (.int n13), .val (.int n14), .val (.int n15), .val (.ref b16), .val (.int r117), .val (.long (0 : Int64)), .second, .unset, .unset, .unset, .unset, .unset, .unset, .unset]) rfl at_306 (pc' := 308) rfl ?_
              refine own_iload X116 hx hby rfl at_308 (pc' := 310) rfl ?_
              refine own_iconst X116 hx hby (v := (1 : Int32)) (by decide) at_310 (pc' := 311) rfl ?_
              refine own_icF X116 hx hby at_311 (by decide) (pc' := 314) rfl ?_
              refine own_lload X116 hx hby rfl at_314 (pc' := 316) rfl ?_
              refine own_ldc2L X116 hx hby hZ hown (hw _ (List.mem_of_getElem? (i := 44) rfl)) at_316 (pc' := 319) rfl ?_
              refine own_iload X116 hx hby rfl at_319 (pc' := 321) rfl ?_
              as_aux_lemma =>
                refine own_i2l X116 hx hby rfl at_321 (pc' := 322) rfl ?_
                refine own_lmul X116 hx hby rfl at_322 (pc' := 323) rfl ?_
                refine own_iconst X116 hx hby (v := (4 : Int32)) (by decide) at_323 (pc' := 324) rfl ?_
                refine own_iload X116 hx hby rfl at_324 (pc' := 326) rfl ?_
                refine own_isub X116 hx hby rfl at_326 (pc' := 327) rfl ?_
                refine own_i2l X116 hx hby rfl at_327 (pc' := 328) rfl ?_
                refine own_ldiv X116 hx hby (own_nzL (own_4q R_n6) (own_4qd R_n6).1) rfl at_328 (pc' := 329) rfl ?_
                refine own_ladd X116 hx hby rfl at_329 (pc' := 330) rfl ?_
                generalize q_n118 : ((0 : Int64) + (((12 : Int64) * (n10.toInt64)) / (((4 : Int32) - n6).toInt64))) = n118
                refine own_lstore X116 hx hby (L' := #[.val (.int p0), .val (.int p1), .val (.int p2), .val (.long p3), .second, .val (.int (0 : Int32)), .val (.int (1 : Int32)), .val (.int (1 : Int32)), .val (.int (2 : Int32)), .val (.int n5), .val (.int n6), .val (.int n7), .val (.int n8), .val (.int n9), .val (.int n10), .val (.int n11), .val (.int n12), .val (.int n13), .val (.int n14), .val (.int n15), .val (.ref b16), .val (.int r117), .val (.long n118), .second, .unset, .unset, .unset, .unset, .unset, .unset, .unset]) rfl at_330 (pc' := 332) rfl ?_
                refine own_iload X116 hx hby rfl at_332 (pc' := 334) rfl ?_
                refine own_iconst X116 hx hby (v := (2 : Int32)) (by decide) at_334 (pc' := 335) rfl ?_
                refine own_icT X116 hx hby at_335 (by decide) (by decide) (pc' := 356) (by decide) ?_
                refine own_lconst X116 hx hby (v := (0 : Int64)) (by decide) at_356 (pc' := 357) rfl ?_
                refine own_lstore X116 hx hby (L' := #[.val (.int p0), .val (.int p1), .val (.int p2), .val (.long p3), .second, .val (.int (0 : Int32)), .val (.int (1 : Int32)), .val (.int (1 : Int32)), .val (.int (2 : Int32)), .val (.int n5), .val (.int n6), .val (.int n7), .val (.int n8), .val (.int n9), .val (.int n10), .val (.int n11), .val (.int n12), .val (.int n13), .val (.int n14), .val (.int n15), .val (.ref b16), .val (.int r117), .val (.long n118), .second, .val (.long (0 : Int64)), .second, .unset, .unset, .unset, .unset, .unset]) rfl at_357 (pc' := 359) rfl ?_
                refine own_iload X116 hx hby rfl at_359 (pc' := 361) rfl ?_
                refine own_iconst X116 hx hby (v := (1 : Int32)) (by decide) at_361 (pc' := 362) rfl ?_
                refine own_icF X116 hx hby at_362 (by decide) (pc' := 365) rfl ?_
                refine own_lload X116 hx hby rfl at_365 (pc' := 367) rfl ?_
                refine own_ldc2L X116 hx hby hZ hown (hw _ (List.mem_of_getElem? (i := 44) rfl)) at_367 (pc' := 370) rfl ?_
                refine own_iload X116 hx hby rfl at_370 (pc' := 372) rfl ?_
                refine own_i2l X116 hx hby rfl at_372 (pc' := 373) rfl ?_
                refine own_lmul X116 hx hby rfl at_373 (pc' := 374) rfl ?_
                refine own_iload X116 hx hby rfl at_374 (pc' := 376) rfl ?_
                refine own_i2l X116 hx hby rfl at_376 (pc' := 377) rfl ?_
                refine own_ldiv X116 hx hby (own_nzL (c_i2l n8) R_n8.1) rfl at_377 (pc' := 378) rfl ?_
                refine own_ladd X116 hx hby rfl at_378 (pc' := 379) rfl ?_
                generalize q_n119 : ((0 : Int64) + (((12 : Int64) * (n12.toInt64)) / (n8.toInt64))) = n119
                refine own_lstore X116 hx hby (L' := #[.val (.int p0), .val (.int p1), .val (.int p2), .val (.long p3), .second, .val (.int (0 : Int32)), .val (.int (1 : Int32)), .val (.int (1 : Int32)), .val (.int (2 : Int32)), .val (.int n5), .val (.int n6), .val (.int n7), .val (.int n8), .val (.int n9), .val (.int n10), .val (.int n11), .val (.int n12), .val (.int n13), .val (.int n14), .val (.int n15), .val (.ref b16), .val (.int r117), .val (.long n118), .second, .val (.long n119), .second, .unset, .unset, .unset, .unset, .unset]) rfl at_379 (pc' := 381) rfl ?_
                refine own_iload X116 hx hby rfl at_381 (pc' := 383) rfl ?_
                refine own_iconst X116 hx hby (v := (2 : Int32)) (by decide) at_383 (pc' := 384) rfl ?_
                refine own_icF X116 hx hby at_384 (by decide) (pc' := 387) rfl ?_
                refine own_lload X116 hx hby rfl at_387 (pc' := 389) rfl ?_
                refine own_ldc2L X116 hx hby hZ hown (hw _ (List.mem_of_getElem? (i := 44) rfl)) at_389 (pc' := 392) rfl ?_
                refine own_iload X116 hx hby rfl at_392 (pc' := 394) rfl ?_
                refine own_i2l X116 hx hby rfl at_394 (pc' := 395) rfl ?_
                refine own_lmul X116 hx hby rfl at_395 (pc' := 396) rfl ?_
                refine own_iload X116 hx hby rfl at_396 (pc' := 398) rfl ?_
                refine own_i2l X116 hx hby rfl at_398 (pc' := 399) rfl ?_
                refine own_ldiv X116 hx hby (own_nzL (c_i2l n9) R_n9.1) rfl at_399 (pc' := 400) rfl ?_
                refine own_ladd X116 hx hby rfl at_400 (pc' := 401) rfl ?_
                generalize q_n120 : (n119 + (((12 : Int64) * (n13.toInt64)) / (n9.toInt64))) = n120
                refine own_lstore X116 hx hby (L' := #[.val (.int p0), .val (.int p1), .val (.int p2), .val (.long p3), .second, .val (.int (0 : Int32)), .val (.int (1 : Int32)), .val (.int (1 : Int32)), .val (.int (2 : Int32)), .val (.int n5), .val (.int n6), .val (.int n7), .val (.int n8), .val (.int n9), .val (.int n10), .val (.int n11), .val (.int n12), .val (.int n13), .val (.int n14), .val (.int n15), .val (.ref b16), .val (.int r117), .val (.long n118), .second, .val (.long n120), .second, .unset, .unset, .unset, .unset, .unset]) rfl at_401 (pc' := 403) rfl ?_
                refine own_iload X116 hx hby rfl at_403 (pc' := 405) rfl ?_
                refine own_ifT X116 hx hby at_405 (by decide) (by decide) (pc' := 414) (by decide) ?_
                refine own_iload X116 hx hby rfl at_414 (pc' := 416) rfl ?_
                refine own_iconst X116 hx hby (v := (1 : Int32)) (by decide) at_416 (pc' := 417) rfl ?_
                refine own_icF X116 hx hby at_417 (by decide) (pc' := 420) rfl ?_
                refine own_ldc2L X116 hx hby hZ hown (hw _ (List.mem_of_getElem? (i := 42) rfl)) at_420 (pc' := 423) rfl ?_
                refine own_lload X116 hx hby rfl at_423 (pc' := 425) rfl ?_
                refine own_lmul X116 hx hby rfl at_425 (pc' := 426) rfl ?_
                refine own_goto X116 hx hby at_426 (by decide) (pc' := 431) (by decide) ?_
                generalize q_n121 : ((2 : Int64) * n118) = n121
                refine own_lstore X116 hx hby (L' := #[.val (.int p0), .val (.int p1), .val (.int p2), .val (.long p3), .second, .val (.int (0 : Int32)), .val (.int (1 : Int32)), .val (.int (1 : Int32)), .val (.int (2 : Int32)), .val (.int n5), .val (.int n6), .val (.int n7), .val (.int n8), .val (.int n9), .val (.int n10), .val (.int n11), .val (.int n12), .val (.int n13), .val (.int n14), .val (.int n15), .val (.ref b16), .val (.int r117), .val (.long n118), .second, .val (.long n120), .second, .val (.long n121), .second, .unset, .unset, .unset]) rfl at_431 (pc' := 433) rfl ?_
                refine own_iload X116 hx hby rfl at_433 (pc' := 435) rfl ?_
                refine own_ifT X116 hx hby at_435 (by decide) (by decide) (pc' := 444) (by decide) ?_
                refine own_iload X116 hx hby rfl at_444 (pc' := 446) rfl ?_
                refine own_iconst X116 hx hby (v := (1 : Int32)) (by decide) at_446 (pc' := 447) rfl ?_
                refine own_icT X116 hx hby at_447 (by decide) (by decide) (pc' := 459) (by decide) ?_
                refine own_lload X116 hx hby rfl at_459 (pc' := 461) rfl ?_
                refine own_lstore X116 hx hby (L' := #[.val (.int p0), .val (.int p1), .val (.int p2), .val (.long p3), .second, .val (.int (0 : Int32)), .val (.int (1 : Int32)), .val (.int (1 : Int32)), .val (.int (2 : Int32)), .val (.int n5), .val (.int n6), .val (.int n7), .val (.int n8), .val (.int n9), .val (.int n10), .val (.int n11), .val (.int n12), .val (.int n13), .val (.int n14), .val (.int n15), .val (.ref b16), .val (.int r117), .val (.long n118), .second, .val (.long n120), .second, .val (.long n121), .second, .val (.long n120), .second, .unset]) rfl at_461 (pc' := 463) rfl ?_
                have tw_n118 := own_tw (k := n10) (own_4q R_n6) (own_4qd R_n6) (own_k10 q_n10)
                have bq_n118 := own_dq (n := (4 - n6.toInt)) (k := n10.toInt) (own_4qd R_n6) (own_k10 q_n10)
                have et_n118 : n118.toInt = (0 + 12 * n10.toInt / (4 - n6.toInt)) := own_ls q_n118 own_e0 tw_n118 (own_w3 own_b0) bq_n118
                have eu : n121.toInt = 2 * (0 + 12 * n10.toInt / (4 - n6.toInt)) := own_l2 q_n121 et_n118 (own_b1' bq_n118)
                have tw_n119 := own_tw (k := n12) (c_i2l n8) R_n8 (own_k10 q_n12)
                have bq_n119 := own_dq (n := n8.toInt) (k := n12.toInt) R_n8 (own_k10 q_n12)
                have et_n119 : n119.toInt = (0 + 12 * n12.toInt / n8.toInt) := own_ls q_n119 own_e0 tw_n119 (own_w3 own_b0) bq_n119
                have tw_n120 := own_tw (k := n13) (c_i2l n9) R_n9 (own_k10 q_n13)
                have bq_n120 := own_dq (n := n9.toInt) (k := n13.toInt) R_n9 (own_k10 q_n13)
                have et_n120 : n120.toInt = ((0 + 12 * n12.toInt / n8.toInt) + 12 * n13.toInt / n9.toInt) := own_ls q_n120 et_n119 tw_n120 (own_b1' bq_n119) bq_n120
                have ed := et_n120
                refine own_lload X116 hx hby rfl at_463 (pc' := 465) rfl ?_
                refine own_bipush X116 hx hby (v := (8 : Int32)) (by decide) at_465 (pc' := 467) rfl ?_
                refine own_iload X116 hx hby rfl at_467 (pc' := 469) rfl ?_
                refine own_isub X116 hx hby rfl at_469 (pc' := 470) rfl ?_
                refine own_i2l X116 hx hby rfl at_470 (pc' := 471) rfl ?_
                refine own_lmul X116 hx hby rfl at_471 (pc' := 472) rfl ?_
                refine own_lload X116 hx hby rfl at_472 (pc' := 474) rfl ?_
                refine own_iload X116 hx hby rfl at_474 (pc' := 476) rfl ?_
                refine own_i2l X116 hx hby rfl at_476 (pc' := 477) rfl ?_
                refine own_lmul X116 hx hby rfl at_477 (pc' := 478) rfl ?_
                generalize q_n122 : (n121 * (((8 : Int32) - n5).toInt64)) = n122
                generalize q_n123 : (n120 * (n5.toInt64)) = n123
                refine own_lcmp X116 hx hby rfl at_478 (pc' := 479) rfl ?_
                obtain ⟨w124, q_w124⟩ : ∃ z : Int32, (if n123 < n122 then (0 : Int32) else (1 : Int32)) = z := ⟨_, rfl⟩
                refine own_join (S' := T116.setTop (mkF m 487 #[.val (.int p0), .val (.int p1), .val (.int p2), .val (.long p3), .second, .val (.int (0 : Int32)), .val (.int (1 : Int32)), .val (.int (1 : Int32)), .val (.int (2 : Int32)), .val (.int n5), .val (.int n6), .val (.int n7), .val (.int n8), .val (.int n9), .val (.int n10), .val (.int n11), .val (.int n12), .val (.int n13), .val (.int n14), .val (.int n15), .val (.ref b16), .val (.int r117), .val (.long n118), .second, .val (.long n120), .second, .val (.long n121), .second, .val (.long n120), .second, .unset] [(.int w124)])) (fun F' k' => ?_) ?_
                · rw [← q_w124] at k'
                  by_cases hc125 : n123 < n122
                  · simp only [if_pos hc125] at k'
                    refine own_ifT X116 hx hby at_479 (own_lc_gt_p hc125) (by decide) (pc' := 486) (by decide) ?_
                    refine own_iconst X116 hx hby (v := (0 : Int32)) (by decide) at_486 (pc' := 487) rfl ?_
                    exact k'
                  · simp only [if_neg hc125] at k'
                    refine own_ifF X116 hx hby at_479 (own_lc_gt_n hc125) (pc' := 482) rfl ?_
                    refine own_iconst X116 hx hby (v := (1 : Int32)) (by decide) at_482 (pc' := 483) rfl ?_
                    refine own_goto X116 hx hby at_483 (by decide) (pc' := 487) (by decide) ?_
                    exact k'
                refine own_istore X116 hx hby (L' := #[.val (.int p0), .val (.int p1), .val (.int p2), .val (.long p3), .second, .val (.int (0 : Int32)), .val (.int (1 : Int32)), .val (.int (1 : Int32)), .val (.int (2 : Int32)), .val (.int n5), .val (.int n6), .val (.int n7), .val (.int n8), .val (.int n9), .val (.int n10), .val (.int n11), .val (.int n12), .val (.int n13), .val (.int n14), .val (.int n15), .val (.ref b16), .val (.int r117), .val (.long n118), .second, .val (.long n120), .second, .val (.long n121), .second, .val (.long n120), .second, .val (.int w124)]) rfl at_487 (pc' := 489) rfl ?_
                refine own_iload X116 hx hby rfl at_489 (pc' := 491) rfl ?_
                refine own_iload X116 hx hby rfl at_491 (pc' := 493) rfl ?_
                have hk126 : r117 = w124 := own_fin SD.2.2.2 R9 (own_t2 (own_b1' b_v74)) (own_t1 (own_b2 b_v108 b_v113)) eu ed q_r117 q_n122 q_n123 q_w124
                refine own_icF X116 hx hby at_493 (own_ic_ne_p hk126) (pc' := 496) rfl ?_
                refine own_iconst X116 hx hby (v := (1 : Int32)) (by decide) at_496 (pc' := 497) rfl ?_
                refine own_goto X116 hx hby at_497 (by decide) (pc' := 501) (by decide) ?_
                exact own_retZ X116 hx hby Bd.notSynchronized Bd.returns (Or.inr rfl) at_501 (by decide) (by decide) eH116 ⟨rfl, N116⟩
      · as_aux_lemma =>
          refine own_iload X22 hx hby rfl at_185 (pc' := 187) rfl ?_
          refine own_iconst X22 hx hby (v := (1 : Int32)) (by decide) at_187 (pc' := 188) rfl ?_
          refine own_icF X22 hx hby at_188 (by decide) (pc' := 191) rfl ?_
          refine own_aload X22 hx hby rfl rfl at_191 (pc' := 193) rfl ?_
          refine own_iload X22 hx hby rfl at_193 (pc' := 195) rfl ?_
          refine own_iconst X22 hx hby (v := (1 : Int32)) (by decide) at_195 (pc' := 196) rfl ?_
          refine own_iload X22 hx hby rfl at_196 (pc' := 198) rfl ?_
          obtain ⟨v127, q_v127⟩ : ∃ z : UInt64, (FP.i2d n6) = z := ⟨_, rfl⟩
          have D_v127 : Dy v127 n6.toInt 0 := q_v127 ▸ dy_i2d n6
          refine own_i2d X22 hx hby q_v127 at_198 (pc' := 199) rfl ?_
          refine own_ldc2D X22 hx hby hZ hown (hw _ (List.mem_of_getElem? (i := 43) rfl)) at_199 (pc' := 202) rfl ?_
          obtain ⟨v128, q_v128⟩ : ∃ z : UInt64, (FP.ddiv v127 (4616189618054758400 : UInt64)) = z := ⟨_, rfl⟩
          have R_n6 := own_q3r q_n6
          have D_v128 : Dy v128 n6.toInt 2 := own_div4 q_v128 D_v127 R_n6
          have nn_v128 := D_v128.nn
          refine own_ddiv X22 hx hby (by rw [q_v128]; exact nn_v128) q_v128 at_202 (pc' := 203) rfl ?_
          refine own_iconst X22 hx hby (v := (3 : Int32)) (by decide) at_203 (pc' := 204) rfl ?_
          refine own_iload X22 hx hby rfl at_204 (pc' := 206) rfl ?_
          refine own_imul X22 hx hby rfl at_206 (pc' := 207) rfl ?_
          obtain ⟨v129, q_v129⟩ : ∃ z : UInt64, (FP.i2d ((3 : Int32) * n10)) = z := ⟨_, rfl⟩
          have D_v129 : Dy v129 (3 * n10.toInt) 0 := q_v129 ▸ (dy_i2d ((3 : Int32) * n10)).to (own_3k (own_k10 q_n10))
          refine own_i2d X22 hx hby q_v129 at_207 (pc' := 208) rfl ?_
          have LU208g := own_g D_v128 R_n6
          have LU208 := own_up D_v128 R_n6 D_v129 (own_k10 q_n10) own_d0 own_b0
          refine own_virtual X22 hx hby hZ (y := (⟨"com/example/bidfold/bidfold/Branching", "learn", "(IZDD)V"⟩ : MethodName)) (y' := (⟨"com/example/bidfold/bidfold/Branching", "learn", "(IZDD)V"⟩ : MethodName)) (C := "com/example/bidfold/bidfold/Branching") (rest := []) hown (hw _ (List.mem_of_getElem? (i := 26) rfl)) (hw _ (List.mem_of_getElem? (i := 27) rfl)) (notFace_of_selects (args := #[]) (mvT hZ (hw _ (List.mem_of_getElem? (i := 29) rfl)))) (hw _ (List.mem_of_getElem? (i := 29) rfl)) (hw _ (List.mem_of_getElem? (i := 28) rfl)) (hw _ (List.mem_of_getElem? (i := 30) rfl)) (hw _ (List.mem_of_getElem? (i := 2) rfl)) (by decide) (rm301 l Z a0 hw [] b16 v128 v129 b8_17 b10_17 (0 : UInt64) v20 (0 : Int32) (1 : Int32) h22 n0 Z0 F_b16_upFalls F_b16_upCounts V_b8_17 V_b10_17 LU208g.1 LU208g.2 LU208.1 LU208.2.1 LU208.2.2.1 g_b8_17 ne_b16_b8_17 (Ne.symm ne_b8_17_b10_17) g_b10_17 ne_b16_b10_17) eH22 (by rw [hml]; rfl) (a := b16) E_b16 (argsL := [(.int (0 : Int32)), (.int (1 : Int32)), (.double v128), (.double v129)]) rfl (lenOf pd_2 rfl) rfl at_208 (pc' := 211) rfl (by decide) (W := 0) (Nat.le_of_eq rfl) (by decide) (by decide) (by decide) (fun T130 h130 Lc130 v130r X130 eH130 hQ130 => ?_)
          obtain ⟨rfl, Nq130, Kq130, gq130_0, gq130_1⟩ := hQ130
          have N130 := Fr.app N22 Nq130
          replace E_b16 := E_b16.keep Kq130
          replace F_b16_downFalls := F_b16_downFalls.keep Kq130 (ninS ne_b16_b8_17 (ninS ne_b16_b10_17 nin0))
          replace F_b16_downCounts := F_b16_downCounts.keep Kq130 (ninS ne_b16_b8_17 (ninS ne_b16_b10_17 nin0))
          replace F_b16_upFalls := F_b16_upFalls.keep Kq130 (ninS ne_b16_b8_17 (ninS ne_b16_b10_17 nin0))
          replace F_b16_upCounts := F_b16_upCounts.keep Kq130 (ninS ne_b16_b8_17 (ninS ne_b16_b10_17 nin0))
          replace E_b4_17 := E_b4_17.keep Kq130
          replace V_b4_17 := V_b4_17.keep Kq130 (ninS ne_b4_17_b8_17 (ninS ne_b4_17_b10_17 nin0))
          replace E_b6_17 := E_b6_17.keep Kq130
          replace V_b6_17 := V_b6_17.keep Kq130 (ninS ne_b6_17_b8_17 (ninS ne_b6_17_b10_17 nin0))
          replace E_b8_17 := E_b8_17.keep Kq130
          replace E_b10_17 := E_b10_17.keep Kq130
          obtain ⟨v131, q_v131⟩ : ∃ z : UInt64, (FP.dadd (0 : UInt64) (FP.ddiv v129 (FP.dsub (4607182418800017408 : UInt64) v128))) = z := ⟨_, rfl⟩
          have V_b8_17 : Ary tr Z h130 b8_17 .double [(.double v131), (.double v20)] := by rw [← q_v131]; exact gq130_0
          rw [show ((0 : Int32) + (1 : Int32)) = (1 : Int32) from by decide] at gq130_1
          have V_b10_17 := gq130_1
          replace Z0 := Nat.le_trans Z0 Kq130.1
          have S_v131 : Dy v131 (0 + 12 * n10.toInt / (4 - n6.toInt)) 0 := by have q := LU208.2.2.2; rwa [q_v131] at q
          have b_v131 := own_dq (n := 4 - n6.toInt) (k := n10.toInt) (own_r4 R_n6) (own_k10 q_n10)
          refine own_iload X130 hx hby rfl at_211 (pc' := 213) rfl ?_
          refine own_iconst X130 hx hby (v := (2 : Int32)) (by decide) at_213 (pc' := 214) rfl ?_
          refine own_icF X130 hx hby at_214 (by decide) (pc' := 217) rfl ?_
          refine own_aload X130 hx hby rfl rfl at_217 (pc' := 219) rfl ?_
          refine own_iload X130 hx hby rfl at_219 (pc' := 221) rfl ?_
          refine own_iconst X130 hx hby (v := (1 : Int32)) (by decide) at_221 (pc' := 222) rfl ?_
          refine own_iload X130 hx hby rfl at_222 (pc' := 224) rfl ?_
          obtain ⟨v132, q_v132⟩ : ∃ z : UInt64, (FP.i2d n7) = z := ⟨_, rfl⟩
          have D_v132 : Dy v132 n7.toInt 0 := q_v132 ▸ dy_i2d n7
          refine own_i2d X130 hx hby q_v132 at_224 (pc' := 225) rfl ?_
          refine own_ldc2D X130 hx hby hZ hown (hw _ (List.mem_of_getElem? (i := 43) rfl)) at_225 (pc' := 228) rfl ?_
          obtain ⟨v133, q_v133⟩ : ∃ z : UInt64, (FP.ddiv v132 (4616189618054758400 : UInt64)) = z := ⟨_, rfl⟩
          have R_n7 := own_q3r q_n7
          have D_v133 : Dy v133 n7.toInt 2 := own_div4 q_v133 D_v132 R_n7
          have nn_v133 := D_v133.nn
          refine own_ddiv X130 hx hby (by rw [q_v133]; exact nn_v133) q_v133 at_228 (pc' := 229) rfl ?_
          refine own_iconst X130 hx hby (v := (3 : Int32)) (by decide) at_229 (pc' := 230) rfl ?_
          refine own_iload X130 hx hby rfl at_230 (pc' := 232) rfl ?_
          refine own_imul X130 hx hby rfl at_232 (pc' := 233) rfl ?_
          obtain ⟨v134, q_v134⟩ : ∃ z : UInt64, (FP.i2d ((3 : Int32) * n11)) = z := ⟨_, rfl⟩
          have D_v134 : Dy v134 (3 * n11.toInt) 0 := q_v134 ▸ (dy_i2d ((3 : Int32) * n11)).to (own_3k (own_k10 q_n11))
          refine own_i2d X130 hx hby q_v134 at_233 (pc' := 234) rfl ?_
          have LU234g := own_g D_v133 R_n7
          have LU234 := own_up D_v133 R_n7 D_v134 (own_k10 q_n11) S_v131 (own_b1 b_v131)
          refine own_virtual X130 hx hby hZ (y := (⟨"com/example/bidfold/bidfold/Branching", "learn", "(IZDD)V"⟩ : MethodName)) (y' := (⟨"com/example/bidfold/bidfold/Branching", "learn", "(IZDD)V"⟩ : MethodName)) (C := "com/example/bidfold/bidfold/Branching") (rest := []) hown (hw _ (List.mem_of_getElem? (i := 26) rfl)) (hw _ (List.mem_of_getElem? (i := 27) rfl)) (notFace_of_selects (args := #[]) (mvT hZ (hw _ (List.mem_of_getElem? (i := 29) rfl)))) (hw _ (List.mem_of_getElem? (i := 29) rfl)) (hw _ (List.mem_of_getElem? (i := 28) rfl)) (hw _ (List.mem_of_getElem? (i := 30) rfl)) (hw _ (List.mem_of_getElem? (i := 2) rfl)) (by decide) (rm301 l Z a0 hw [] b16 v133 v134 b8_17 b10_17 v131 v20 (1 : Int32) (1 : Int32) h130 n0 Z0 F_b16_upFalls F_b16_upCounts V_b8_17 V_b10_17 LU234g.1 LU234g.2 LU234.1 LU234.2.1 LU234.2.2.1 g_b8_17 ne_b16_b8_17 (Ne.symm ne_b8_17_b10_17) g_b10_17 ne_b16_b10_17) eH130 (by rw [hml]; rfl) (a := b16) E_b16 (argsL := [(.int (0 : Int32)), (.int (1 : Int32)), (.double v133), (.double v134)]) rfl (lenOf pd_2 rfl) rfl at_234 (pc' := 237) rfl (by decide) (W := 0) (Nat.le_of_eq rfl) (by decide) (by decide) (by decide) (fun T135 h135 Lc135 v135r X135 eH135 hQ135 => ?_)
          obtain ⟨rfl, Nq135, Kq135, gq135_0, gq135_1⟩ := hQ135
          have N135 := Fr.app N130 Nq135
          replace E_b16 := E_b16.keep Kq135
          replace F_b16_downFalls := F_b16_downFalls.keep Kq135 (ninS ne_b16_b8_17 (ninS ne_b16_b10_17 nin0))
          replace F_b16_downCounts := F_b16_downCounts.keep Kq135 (ninS ne_b16_b8_17 (ninS ne_b16_b10_17 nin0))
          replace F_b16_upFalls := F_b16_upFalls.keep Kq135 (ninS ne_b16_b8_17 (ninS ne_b16_b10_17 nin0))
          replace F_b16_upCounts := F_b16_upCounts.keep Kq135 (ninS ne_b16_b8_17 (ninS ne_b16_b10_17 nin0))
          replace E_b4_17 := E_b4_17.keep Kq135
          replace V_b4_17 := V_b4_17.keep Kq135 (ninS ne_b4_17_b8_17 (ninS ne_b4_17_b10_17 nin0))
          replace E_b6_17 := E_b6_17.keep Kq135
          replace V_b6_17 := V_b6_17.keep Kq135 (ninS ne_b6_17_b8_17 (ninS ne_b6_17_b10_17 nin0))
          replace E_b8_17 := E_b8_17.keep Kq135
          replace E_b10_17 := E_b10_17.keep Kq135
          obtain ⟨v136, q_v136⟩ : ∃ z : UInt64, (FP.dadd v131 (FP.ddiv v134 (FP.dsub (4607182418800017408 : UInt64) v133))) = z := ⟨_, rfl⟩
          have V_b8_17 : Ary tr Z h135 b8_17 .double [(.double v136), (.double v20)] := by rw [← q_v136]; exact gq135_0
          rw [show ((1 : Int32) + (1 : Int32)) = (2 : Int32) from by decide] at gq135_1
          have V_b10_17 := gq135_1
          replace Z0 := Nat.le_trans Z0 Kq135.1
          have S_v136 : Dy v136 ((0 + 12 * n10.toInt / (4 - n6.toInt)) + 12 * n11.toInt / (4 - n7.toInt)) 0 := by have q := LU234.2.2.2; rwa [q_v136] at q
          have b_v136 := own_dq (n := 4 - n7.toInt) (k := n11.toInt) (own_r4 R_n7) (own_k10 q_n11)
          rcases own_n3 q_n4 with rfl | rfl | rfl
          · refine own_iload X135 hx hby rfl at_237 (pc' := 239) rfl ?_
            refine own_iconst X135 hx hby (v := (1 : Int32)) (by decide) at_239 (pc' := 240) rfl ?_
            refine own_icT X135 hx hby at_240 (by decide) (by decide) (pc' := 263) (by decide) ?_
            refine own_iload X135 hx hby rfl at_263 (pc' := 265) rfl ?_
            refine own_iconst X135 hx hby (v := (2 : Int32)) (by decide) at_265 (pc' := 266) rfl ?_
            refine own_icT X135 hx hby at_266 (by decide) (by decide) (pc' := 289) (by decide) ?_
            refine own_aload X135 hx hby rfl rfl at_289 (pc' := 291) rfl ?_
            refine own_iload X135 hx hby rfl at_291 (pc' := 293) rfl ?_
            refine own_iload X135 hx hby rfl at_293 (pc' := 295) rfl ?_
            obtain ⟨v137, q_v137⟩ : ∃ z : UInt64, (FP.i2d n5) = z := ⟨_, rfl⟩
            have D_v137 : Dy v137 n5.toInt 0 := q_v137 ▸ dy_i2d n5
            refine own_i2d X135 hx hby q_v137 at_295 (pc' := 296) rfl ?_
            refine own_ldc2D X135 hx hby hZ hown (hw _ (List.mem_of_getElem? (i := 33) rfl)) at_296 (pc' := 299) rfl ?_
            obtain ⟨v138, q_v138⟩ : ∃ z : UInt64, (FP.ddiv v137 (4620693217682128896 : UInt64)) = z := ⟨_, rfl⟩
            have R9 := own_r9 q_n5
            have D_v138 : Dy v138 n5.toInt 3 := own_div8 q_v138 D_v137 R9
            have nn_v138 := D_v138.nn
            refine own_ddiv X135 hx hby (by rw [q_v138]; exact nn_v138) q_v138 at_299 (pc' := 300) rfl ?_
            have MA0 := own_f2 S_v136 (own_b2 b_v131 b_v136)
            have MA := own_ifp (p := 0 < (2 : Int32)) (by decide) (y := (4607182418800017408 : UInt64)) MA0
            have MB := own_f0 (e := (0 : UInt64))
            have SD := own_sides MA MB (own_t1 (own_b2 b_v131 b_v136)) own_tz D_v138 R9
            refine own_virtual X135 hx hby hZ (y := (⟨"com/example/bidfold/bidfold/Branching", "leansIn", "(ID)Z"⟩ : MethodName)) (y' := (⟨"com/example/bidfold/bidfold/Branching", "leansIn", "(ID)Z"⟩ : MethodName)) (C := "com/example/bidfold/bidfold/Branching") (rest := []) hown (hw _ (List.mem_of_getElem? (i := 34) rfl)) (hw _ (List.mem_of_getElem? (i := 35) rfl)) (notFace_of_selects (args := #[]) (mvT hZ (hw _ (List.mem_of_getElem? (i := 37) rfl)))) (hw _ (List.mem_of_getElem? (i := 37) rfl)) (hw _ (List.mem_of_getElem? (i := 36) rfl)) (hw _ (List.mem_of_getElem? (i := 38) rfl)) (hw _ (List.mem_of_getElem? (i := 2) rfl)) (by decide) (rm40 l Z a0 hw [] b16 v138 b8_17 b10_17 v136 v20 (2 : Int32) (1 : Int32) b4_17 b6_17 (0 : UInt64) v23 (0 : Int32) (1 : Int32) h135 n0 Z0 F_b16_upFalls F_b16_upCounts V_b8_17 V_b10_17 F_b16_downFalls F_b16_downCounts V_b4_17 V_b6_17 (fun _ => MA0.nn) SD.1 SD.2.1 (fun h => absurd h (by decide)) SD.2.2.1) eH135 (by rw [hml]; rfl) (a := b16) E_b16 (argsL := [(.int (0 : Int32)), (.double v138)]) rfl (lenOf pd_3 rfl) rfl at_300 (pc' := 303) rfl (by decide) (W := 0) (Nat.le_of_eq rfl) (by decide) (by decide) (by decide) (fun T139 h139 Lc139 v139r X139 eH139 hQ139 => ?_)
            obtain ⟨rfl, Nq139, rfl⟩ := hQ139
            have N139 := Fr.app N135 Nq139
            dsimp only [Option.toList, List.cons_append, List.nil_append]
            generalize q_r140 : (if dle (FP.dmul (if 0 < (2 : Int32) then (FP.ddiv v136 (FP.i2d (2 : Int32))) else (4607182418800017408 : UInt64)) (FP.dsub (4607182418800017408 : UInt64) v138)) (FP.dmul (if 0 < (0 : Int32) then (FP.ddiv (0 : UInt64) (FP.i2d (0 : Int32))) else (4607182418800017408 : UInt64)) v138) then (1 : Int32) else (0 : Int32)) = r140
            refine own_istore X139 hx hby (L' := #[.val (.int p0), .val (.int p1), .val (.int p2), .val (.long p3), .second, .val (.int (0 : Int32)), .val (.int (1 : Int32)), .val (.int (2 : Int32)), .val (.int (0 : Int32)), .val (.int n5), .val (.int n6), .val (.int n7), .val (.int n8), .val (.int n9), .val (.int n10), .val (.int n11), .val (.int n12), .val (.int n13), .val (.int n14), .val (.int n15), .val (.ref b16), .val (.int r140), .unset, .unset, .unset, .unset, .unset, .unset, .unset, .unset, .unset]) rfl at_303 (pc' := 305) rfl ?_
            refine own_lconst X139 hx hby (v := (0 : Int64)) (by decide) at_305 (pc' := 306) rfl ?_
            as_aux_lemma =>
              refine own_lstore X139 hx hby (L' := #[.val (.int p0), .val (.int p1), .val (.int p2), .val (.long p3), .second, .val (.int (0 : Int32)), .val (.int (1 : Int32)), .val (.int (2 : Int32)), .val (.int (0 : Int32)), .val (.int n5), .val (.int n6), .val (.int n7), .val (.int n8), .val (.int n9), .val (.int n10), .val (.int n11), .val (.int n12), .val (.int n13), .val (.int n14), .val (.int n15), .val (.ref b16), .val (.int r140), .val (.long (0 : Int64)), .second, .unset, .unset, .unset, .unset, .unset, .unset, .unset]) rfl at_306 (pc' := 308) rfl ?_
              refine own_iload X139 hx hby rfl at_308 (pc' := 310) rfl ?_
              refine own_iconst X139 hx hby (v := (1 : Int32)) (by decide) at_310 (pc' := 311) rfl ?_
              refine own_icF X139 hx hby at_311 (by decide) (pc' := 314) rfl ?_
              refine own_lload X139 hx hby rfl at_314 (pc' := 316) rfl ?_
              refine own_ldc2L X139 hx hby hZ hown (hw _ (List.mem_of_getElem? (i := 44) rfl)) at_316 (pc' := 319) rfl ?_
              refine own_iload X139 hx hby rfl at_319 (pc' := 321) rfl ?_
              refine own_i2l X139 hx hby rfl at_321 (pc' := 322) rfl ?_
              refine own_lmul X139 hx hby rfl at_322 (pc' := 323) rfl ?_
              refine own_iconst X139 hx hby (v := (4 : Int32)) (by decide) at_323 (pc' := 324) rfl ?_
              refine own_iload X139 hx hby rfl at_324 (pc' := 326) rfl ?_
              refine own_isub X139 hx hby rfl at_326 (pc' := 327) rfl ?_
              refine own_i2l X139 hx hby rfl at_327 (pc' := 328) rfl ?_
              refine own_ldiv X139 hx hby (own_nzL (own_4q R_n6) (own_4qd R_n6).1) rfl at_328 (pc' := 329) rfl ?_
              refine own_ladd X139 hx hby rfl at_329 (pc' := 330) rfl ?_
              generalize q_n141 : ((0 : Int64) + (((12 : Int64) * (n10.toInt64)) / (((4 : Int32) - n6).toInt64))) = n141
              refine own_lstore X139 hx hby (L' := #[.val (.int p0), .val (.int p1), .val (.int p2), .val (.long p3), .second, .val (.int (0 : Int32)), .val (.int (1 : Int32)), .val (.int (2 : Int32)), .val (.int (0 : Int32)), .val (.int n5), .val (.int n6), .val (.int n7), .val (.int n8), .val (.int n9), .val (.int n10), .val (.int n11), .val (.int n12), .val (.int n13), .val (.int n14), .val (.int n15), .val (.ref b16), .val (.int r140), .val (.long n141), .second, .unset, .unset, .unset, .unset, .unset, .unset, .unset]) rfl at_330 (pc' := 332) rfl ?_
              refine own_iload X139 hx hby rfl at_332 (pc' := 334) rfl ?_
              refine own_iconst X139 hx hby (v := (2 : Int32)) (by decide) at_334 (pc' := 335) rfl ?_
              refine own_icF X139 hx hby at_335 (by decide) (pc' := 338) rfl ?_
              refine own_lload X139 hx hby rfl at_338 (pc' := 340) rfl ?_
              refine own_ldc2L X139 hx hby hZ hown (hw _ (List.mem_of_getElem? (i := 44) rfl)) at_340 (pc' := 343) rfl ?_
              refine own_iload X139 hx hby rfl at_343 (pc' := 345) rfl ?_
              refine own_i2l X139 hx hby rfl at_345 (pc' := 346) rfl ?_
              refine own_lmul X139 hx hby rfl at_346 (pc' := 347) rfl ?_
              refine own_iconst X139 hx hby (v := (4 : Int32)) (by decide) at_347 (pc' := 348) rfl ?_
              refine own_iload X139 hx hby rfl at_348 (pc' := 350) rfl ?_
              refine own_isub X139 hx hby rfl at_350 (pc' := 351) rfl ?_
              refine own_i2l X139 hx hby rfl at_351 (pc' := 352) rfl ?_
              refine own_ldiv X139 hx hby (own_nzL (own_4q R_n7) (own_4qd R_n7).1) rfl at_352 (pc' := 353) rfl ?_
              refine own_ladd X139 hx hby rfl at_353 (pc' := 354) rfl ?_
              generalize q_n142 : (n141 + (((12 : Int64) * (n11.toInt64)) / (((4 : Int32) - n7).toInt64))) = n142
              refine own_lstore X139 hx hby (L' := #[.val (.int p0), .val (.int p1), .val (.int p2), .val (.long p3), .second, .val (.int (0 : Int32)), .val (.int (1 : Int32)), .val (.int (2 : Int32)), .val (.int (0 : Int32)), .val (.int n5), .val (.int n6), .val (.int n7), .val (.int n8), .val (.int n9), .val (.int n10), .val (.int n11), .val (.int n12), .val (.int n13), .val (.int n14), .val (.int n15), .val (.ref b16), .val (.int r140), .val (.long n142), .second, .unset, .unset, .unset, .unset, .unset, .unset, .unset]) rfl at_354 (pc' := 356) rfl ?_
              refine own_lconst X139 hx hby (v := (0 : Int64)) (by decide) at_356 (pc' := 357) rfl ?_
              refine own_lstore X139 hx hby (L' := #[.val (.int p0), .val (.int p1), .val (.int p2), .val (.long p3), .second, .val (.int (0 : Int32)), .val (.int (1 : Int32)), .val (.int (2 : Int32)), .val (.int (0 : Int32)), .val (.int n5), .val (.int n6), .val (.int n7), .val (.int n8), .val (.int n9), .val (.int n10), .val (.int n11), .val (.int n12), .val (.int n13), .val (.int n14), .val (.int n15), .val (.ref b16), .val (.int r140), .val (.long n142), .second, .val (.long (0 : Int64)), .second, .unset, .unset, .unset, .unset, .unset]) rfl at_357 (pc' := 359) rfl ?_
              refine own_iload X139 hx hby rfl at_359 (pc' := 361) rfl ?_
              refine own_iconst X139 hx hby (v := (1 : Int32)) (by decide) at_361 (pc' := 362) rfl ?_
              refine own_icT X139 hx hby at_362 (by decide) (by decide) (pc' := 381) (by decide) ?_
              refine own_iload X139 hx hby rfl at_381 (pc' := 383) rfl ?_
              refine own_iconst X139 hx hby (v := (2 : Int32)) (by decide) at_383 (pc' := 384) rfl ?_
              refine own_icT X139 hx hby at_384 (by decide) (by decide) (pc' := 403) (by decide) ?_
              refine own_iload X139 hx hby rfl at_403 (pc' := 405) rfl ?_
              refine own_ifT X139 hx hby at_405 (by decide) (by decide) (pc' := 414) (by decide) ?_
              refine own_iload X139 hx hby rfl at_414 (pc' := 416) rfl ?_
              refine own_iconst X139 hx hby (v := (1 : Int32)) (by decide) at_416 (pc' := 417) rfl ?_
              refine own_icT X139 hx hby at_417 (by decide) (by decide) (pc' := 429) (by decide) ?_
              refine own_lload X139 hx hby rfl at_429 (pc' := 431) rfl ?_
              refine own_lstore X139 hx hby (L' := #[.val (.int p0), .val (.int p1), .val (.int p2), .val (.long p3), .second, .val (.int (0 : Int32)), .val (.int (1 : Int32)), .val (.int (2 : Int32)), .val (.int (0 : Int32)), .val (.int n5), .val (.int n6), .val (.int n7), .val (.int n8), .val (.int n9), .val (.int n10), .val (.int n11), .val (.int n12), .val (.int n13), .val (.int n14), .val (.int n15), .val (.ref b16), .val (.int r140), .val (.long n142), .second, .val (.long (0 : Int64)), .second, .val (.long n142), .second, .unset, .unset, .unset]) rfl at_431 (pc' := 433) rfl ?_
              refine own_iload X139 hx hby rfl at_433 (pc' := 435) rfl ?_
              refine own_ifF X139 hx hby at_435 (by decide) (pc' := 438) rfl ?_
              refine own_ldc2L X139 hx hby hZ hown (hw _ (List.mem_of_getElem? (i := 42) rfl)) at_438 (pc' := 441) rfl ?_
              refine own_goto X139 hx hby at_441 (by decide) (pc' := 461) (by decide) ?_
              refine own_lstore X139 hx hby (L' := #[.val (.int p0), .val (.int p1), .val (.int p2), .val (.long p3), .second, .val (.int (0 : Int32)), .val (.int (1 : Int32)), .val (.int (2 : Int32)), .val (.int (0 : Int32)), .val (.int n5), .val (.int n6), .val (.int n7), .val (.int n8), .val (.int n9), .val (.int n10), .val (.int n11), .val (.int n12), .val (.int n13), .val (.int n14), .val (.int n15), .val (.ref b16), .val (.int r140), .val (.long n142), .second, .val (.long (0 : Int64)), .second, .val (.long n142), .second, .val (.long (2 : Int64)), .second, .unset]) rfl at_461 (pc' := 463) rfl ?_
              have tw_n141 := own_tw (k := n10) (own_4q R_n6) (own_4qd R_n6) (own_k10 q_n10)
              have bq_n141 := own_dq (n := (4 - n6.toInt)) (k := n10.toInt) (own_4qd R_n6) (own_k10 q_n10)
              have et_n141 : n141.toInt = (0 + 12 * n10.toInt / (4 - n6.toInt)) := own_ls q_n141 own_e0 tw_n141 (own_w3 own_b0) bq_n141
              have tw_n142 := own_tw (k := n11) (own_4q R_n7) (own_4qd R_n7) (own_k10 q_n11)
              have bq_n142 := own_dq (n := (4 - n7.toInt)) (k := n11.toInt) (own_4qd R_n7) (own_k10 q_n11)
              have et_n142 : n142.toInt = ((0 + 12 * n10.toInt / (4 - n6.toInt)) + 12 * n11.toInt / (4 - n7.toInt)) := own_ls q_n142 et_n141 tw_n142 (own_b1' bq_n141) bq_n142
              have eu := et_n142
              have ed := own_e2
              refine own_lload X139 hx hby rfl at_463 (pc' := 465) rfl ?_
              refine own_bipush X139 hx hby (v := (8 : Int32)) (by decide) at_465 (pc' := 467) rfl ?_
              refine own_iload X139 hx hby rfl at_467 (pc' := 469) rfl ?_
              refine own_isub X139 hx hby rfl at_469 (pc' := 470) rfl ?_
              refine own_i2l X139 hx hby rfl at_470 (pc' := 471) rfl ?_
              refine own_lmul X139 hx hby rfl at_471 (pc' := 472) rfl ?_
              refine own_lload X139 hx hby rfl at_472 (pc' := 474) rfl ?_
              refine own_iload X139 hx hby rfl at_474 (pc' := 476) rfl ?_
              refine own_i2l X139 hx hby rfl at_476 (pc' := 477) rfl ?_
              refine own_lmul X139 hx hby rfl at_477 (pc' := 478) rfl ?_
              generalize q_n143 : (n142 * (((8 : Int32) - n5).toInt64)) = n143
              generalize q_n144 : ((2 : Int64) * (n5.toInt64)) = n144
              refine own_lcmp X139 hx hby rfl at_478 (pc' := 479) rfl ?_
              obtain ⟨w145, q_w145⟩ : ∃ z : Int32, (if n144 < n143 then (0 : Int32) else (1 : Int32)) = z := ⟨_, rfl⟩
              refine own_join (S' := T139.setTop (mkF m 487 #[.val (.int p0), .val (.int p1), .val (.int p2), .val (.long p3), .second, .val (.int (0 : Int32)), .val (.int (1 : Int32)), .val (.int (2 : Int32)), .val (.int (0 : Int32)), .val (.int n5), .val (.int n6), .val (.int n7), .val (.int n8), .val (.int n9), .val (.int n10), .val (.int n11), .val (.int n12), .val (.int n13), .val (.int n14), .val (.int n15), .val (.ref b16), .val (.int r140), .val (.long n142), .second, .val (.long (0 : Int64)), .second, .val (.long n142), .second, .val (.long (2 : Int64)), .second, .unset] [(.int w145)])) (fun F' k' => ?_) ?_
              · rw [← q_w145] at k'
                by_cases hc146 : n144 < n143
                · simp only [if_pos hc146] at k'
                  refine own_ifT X139 hx hby at_479 (own_lc_gt_p hc146) (by decide) (pc' := 486) (by decide) ?_
                  refine own_iconst X139 hx hby (v := (0 : Int32)) (by decide) at_486 (pc' := 487) rfl ?_
                  exact k'
                · simp only [if_neg hc146] at k'
                  refine own_ifF X139 hx hby at_479 (own_lc_gt_n hc146) (pc' := 482) rfl ?_
                  refine own_iconst X139 hx hby (v := (1 : Int32)) (by decide) at_482 (pc' := 483) rfl ?_
                  refine own_goto X139 hx hby at_483 (by decide) (pc' := 487) (by decide) ?_
                  exact k'
              refine own_istore X139 hx hby (L' := #[.val (.int p0), .val (.int p1), .val (.int p2), .val (.long p3), .second, .val (.int (0 : Int32)), .val (.int (1 : Int32)), .val (.int (2 : Int32)), .val (.int (0 : Int32)), .val (.int n5), .val (.int n6), .val (.int n7), .val (.int n8), .val (.int n9), .val (.int n10), .val (.int n11), .val (.int n12), .val (.int n13), .val (.int n14), .val (.int n15), .val (.ref b16), .val (.int r140), .val (.long n142), .second, .val (.long (0 : Int64)), .second, .val (.long n142), .second, .val (.long (2 : Int64)), .second, .val (.int w145)]) rfl at_487 (pc' := 489) rfl ?_
              refine own_iload X139 hx hby rfl at_489 (pc' := 491) rfl ?_
              refine own_iload X139 hx hby rfl at_491 (pc' := 493) rfl ?_
              have hk147 : r140 = w145 := own_fin SD.2.2.2 R9 (own_t1 (own_b2 b_v131 b_v136)) own_tz eu ed q_r140 q_n143 q_n144 q_w145
              refine own_icF X139 hx hby at_493 (own_ic_ne_p hk147) (pc' := 496) rfl ?_
              refine own_iconst X139 hx hby (v := (1 : Int32)) (by decide) at_496 (pc' := 497) rfl ?_
              refine own_goto X139 hx hby at_497 (by decide) (pc' := 501) (by decide) ?_
              exact own_retZ X139 hx hby Bd.notSynchronized Bd.returns (Or.inr rfl) at_501 (by decide) (by decide) eH139 ⟨rfl, N139⟩
          · as_aux_lemma =>
              refine own_iload X135 hx hby rfl at_237 (pc' := 239) rfl ?_
              refine own_iconst X135 hx hby (v := (1 : Int32)) (by decide) at_239 (pc' := 240) rfl ?_
              refine own_icF X135 hx hby at_240 (by decide) (pc' := 243) rfl ?_
              refine own_aload X135 hx hby rfl rfl at_243 (pc' := 245) rfl ?_
              refine own_iload X135 hx hby rfl at_245 (pc' := 247) rfl ?_
              refine own_iconst X135 hx hby (v := (0 : Int32)) (by decide) at_247 (pc' := 248) rfl ?_
              refine own_iload X135 hx hby rfl at_248 (pc' := 250) rfl ?_
              obtain ⟨v148, q_v148⟩ : ∃ z : UInt64, (FP.i2d n8) = z := ⟨_, rfl⟩
              have D_v148 : Dy v148 n8.toInt 0 := q_v148 ▸ dy_i2d n8
              refine own_i2d X135 hx hby q_v148 at_250 (pc' := 251) rfl ?_
              refine own_ldc2D X135 hx hby hZ hown (hw _ (List.mem_of_getElem? (i := 43) rfl)) at_251 (pc' := 254) rfl ?_
              obtain ⟨v149, q_v149⟩ : ∃ z : UInt64, (FP.ddiv v148 (4616189618054758400 : UInt64)) = z := ⟨_, rfl⟩
              have R_n8 := own_q3r q_n8
              have D_v149 : Dy v149 n8.toInt 2 := own_div4 q_v149 D_v148 R_n8
              have nn_v149 := D_v149.nn
              refine own_ddiv X135 hx hby (by rw [q_v149]; exact nn_v149) q_v149 at_254 (pc' := 255) rfl ?_
              refine own_iconst X135 hx hby (v := (3 : Int32)) (by decide) at_255 (pc' := 256) rfl ?_
              refine own_iload X135 hx hby rfl at_256 (pc' := 258) rfl ?_
              refine own_imul X135 hx hby rfl at_258 (pc' := 259) rfl ?_
              obtain ⟨v150, q_v150⟩ : ∃ z : UInt64, (FP.i2d ((3 : Int32) * n12)) = z := ⟨_, rfl⟩
              have D_v150 : Dy v150 (3 * n12.toInt) 0 := q_v150 ▸ (dy_i2d ((3 : Int32) * n12)).to (own_3k (own_k10 q_n12))
              refine own_i2d X135 hx hby q_v150 at_259 (pc' := 260) rfl ?_
              have LU260g := own_g D_v149 R_n8
              have LU260 := own_dn D_v149 R_n8 D_v150 (own_k10 q_n12) own_d0 own_b0
              refine own_virtual X135 hx hby hZ (y := (⟨"com/example/bidfold/bidfold/Branching", "learn", "(IZDD)V"⟩ : MethodName)) (y' := (⟨"com/example/bidfold/bidfold/Branching", "learn", "(IZDD)V"⟩ : MethodName)) (C := "com/example/bidfold/bidfold/Branching") (rest := []) hown (hw _ (List.mem_of_getElem? (i := 26) rfl)) (hw _ (List.mem_of_getElem? (i := 27) rfl)) (notFace_of_selects (args := #[]) (mvT hZ (hw _ (List.mem_of_getElem? (i := 29) rfl)))) (hw _ (List.mem_of_getElem? (i := 29) rfl)) (hw _ (List.mem_of_getElem? (i := 28) rfl)) (hw _ (List.mem_of_getElem? (i := 30) rfl)) (hw _ (List.mem_of_getElem? (i := 2) rfl)) (by decide) (rm300 l Z a0 hw [] b16 v149 v150 b4_17 b6_17 (0 : UInt64) v23 (0 : Int32) (1 : Int32) h135 n0 Z0 F_b16_downFalls F_b16_downCounts V_b4_17 V_b6_17 LU260g.1 LU260g.2 LU260.1 LU260.2.1 g_b4_17 ne_b16_b4_17 (Ne.symm ne_b4_17_b6_17) g_b6_17 ne_b16_b6_17) eH135 (by rw [hml]; rfl) (a := b16) E_b16 (argsL := [(.int (0 : Int32)), (.int (0 : Int32)), (.double v149), (.double v150)]) rfl (lenOf pd_2 rfl) rfl at_260 (pc' := 263) rfl (by decide) (W := 0) (Nat.le_of_eq rfl) (by decide) (by decide) (by decide) (fun T151 h151 Lc151 v151r X151 eH151 hQ151 => ?_)
              obtain ⟨rfl, Nq151, Kq151, gq151_0, gq151_1⟩ := hQ151
              have N151 := Fr.app N135 Nq151
              replace E_b16 := E_b16.keep Kq151
              replace F_b16_downFalls := F_b16_downFalls.keep Kq151 (ninS ne_b16_b4_17 (ninS ne_b16_b6_17 nin0))
              replace F_b16_downCounts := F_b16_downCounts.keep Kq151 (ninS ne_b16_b4_17 (ninS ne_b16_b6_17 nin0))
              replace F_b16_upFalls := F_b16_upFalls.keep Kq151 (ninS ne_b16_b4_17 (ninS ne_b16_b6_17 nin0))
              replace F_b16_upCounts := F_b16_upCounts.keep Kq151 (ninS ne_b16_b4_17 (ninS ne_b16_b6_17 nin0))
              replace E_b4_17 := E_b4_17.keep Kq151
              replace E_b6_17 := E_b6_17.keep Kq151
              replace E_b8_17 := E_b8_17.keep Kq151
              replace V_b8_17 := V_b8_17.keep Kq151 (ninS (Ne.symm ne_b4_17_b8_17) (ninS (Ne.symm ne_b6_17_b8_17) nin0))
              replace E_b10_17 := E_b10_17.keep Kq151
              replace V_b10_17 := V_b10_17.keep Kq151 (ninS (Ne.symm ne_b4_17_b10_17) (ninS (Ne.symm ne_b6_17_b10_17) nin0))
              obtain ⟨v152, q_v152⟩ : ∃ z : UInt64, (FP.dadd (0 : UInt64) (FP.ddiv v150 v149)) = z := ⟨_, rfl⟩
              have V_b4_17 : Ary tr Z h151 b4_17 .double [(.double v152), (.double v23)] := by rw [← q_v152]; exact gq151_0
              rw [show ((0 : Int32) + (1 : Int32)) = (1 : Int32) from by decide] at gq151_1
              have V_b6_17 := gq151_1
              replace Z0 := Nat.le_trans Z0 Kq151.1
              have S_v152 : Dy v152 (0 + 12 * n12.toInt / n8.toInt) 0 := by have q := LU260.2.2; rwa [q_v152] at q
              have b_v152 := own_dq (n := n8.toInt) (k := n12.toInt) R_n8 (own_k10 q_n12)
              refine own_iload X151 hx hby rfl at_263 (pc' := 265) rfl ?_
              refine own_iconst X151 hx hby (v := (2 : Int32)) (by decide) at_265 (pc' := 266) rfl ?_
              refine own_icT X151 hx hby at_266 (by decide) (by decide) (pc' := 289) (by decide) ?_
              refine own_aload X151 hx hby rfl rfl at_289 (pc' := 291) rfl ?_
              refine own_iload X151 hx hby rfl at_291 (pc' := 293) rfl ?_
              refine own_iload X151 hx hby rfl at_293 (pc' := 295) rfl ?_
              obtain ⟨v153, q_v153⟩ : ∃ z : UInt64, (FP.i2d n5) = z := ⟨_, rfl⟩
              have D_v153 : Dy v153 n5.toInt 0 := q_v153 ▸ dy_i2d n5
              refine own_i2d X151 hx hby q_v153 at_295 (pc' := 296) rfl ?_
              refine own_ldc2D X151 hx hby hZ hown (hw _ (List.mem_of_getElem? (i := 33) rfl)) at_296 (pc' := 299) rfl ?_
              obtain ⟨v154, q_v154⟩ : ∃ z : UInt64, (FP.ddiv v153 (4620693217682128896 : UInt64)) = z := ⟨_, rfl⟩
              have R9 := own_r9 q_n5
              have D_v154 : Dy v154 n5.toInt 3 := own_div8 q_v154 D_v153 R9
              have nn_v154 := D_v154.nn
              refine own_ddiv X151 hx hby (by rw [q_v154]; exact nn_v154) q_v154 at_299 (pc' := 300) rfl ?_
              have MA0 := own_f2 S_v136 (own_b2 b_v131 b_v136)
              have MA := own_ifp (p := 0 < (2 : Int32)) (by decide) (y := (4607182418800017408 : UInt64)) MA0
              have MB0 := own_f1 S_v152 (own_b1' b_v152)
              have MB := own_ifp (p := 0 < (1 : Int32)) (by decide) (y := (4607182418800017408 : UInt64)) MB0
              have SD := own_sides MA MB (own_t1 (own_b2 b_v131 b_v136)) (own_t2 (own_b1' b_v152)) D_v154 R9
              refine own_virtual X151 hx hby hZ (y := (⟨"com/example/bidfold/bidfold/Branching", "leansIn", "(ID)Z"⟩ : MethodName)) (y' := (⟨"com/example/bidfold/bidfold/Branching", "leansIn", "(ID)Z"⟩ : MethodName)) (C := "com/example/bidfold/bidfold/Branching") (rest := []) hown (hw _ (List.mem_of_getElem? (i := 34) rfl)) (hw _ (List.mem_of_getElem? (i := 35) rfl)) (notFace_of_selects (args := #[]) (mvT hZ (hw _ (List.mem_of_getElem? (i := 37) rfl)))) (hw _ (List.mem_of_getElem? (i := 37) rfl)) (hw _ (List.mem_of_getElem? (i := 36) rfl)) (hw _ (List.mem_of_getElem? (i := 38) rfl)) (hw _ (List.mem_of_getElem? (i := 2) rfl)) (by decide) (rm40 l Z a0 hw [] b16 v154 b8_17 b10_17 v136 v20 (2 : Int32) (1 : Int32) b4_17 b6_17 v152 v23 (1 : Int32) (1 : Int32) h151 n0 Z0 F_b16_upFalls F_b16_upCounts V_b8_17 V_b10_17 F_b16_downFalls F_b16_downCounts V_b4_17 V_b6_17 (fun _ => MA0.nn) SD.1 SD.2.1 (fun _ => MB0.nn) SD.2.2.1) eH151 (by rw [hml]; rfl) (a := b16) E_b16 (argsL := [(.int (0 : Int32)), (.double v154)]) rfl (lenOf pd_3 rfl) rfl at_300 (pc' := 303) rfl (by decide) (W := 0) (Nat.le_of_eq rfl) (by decide) (by decide) (by decide) (fun T155 h155 Lc155 v155r X155 eH155 hQ155 => ?_)
              obtain ⟨rfl, Nq155, rfl⟩ := hQ155
              have N155 := Fr.app N151 Nq155
              dsimp only [Option.toList, List.cons_append, List.nil_append]
              generalize q_r156 : (if dle (FP.dmul (if 0 < (2 : Int32) then (FP.ddiv v136 (FP.i2d (2 : Int32))) else (4607182418800017408 : UInt64)) (FP.dsub (4607182418800017408 : UInt64) v154)) (FP.dmul (if 0 < (1 : Int32) then (FP.ddiv v152 (FP.i2d (1 : Int32))) else (4607182418800017408 : UInt64)) v154) then (1 : Int32) else (0 : Int32)) = r156
              refine own_istore X155 hx hby (L' := #[.val (.int p0), .val (.int p1), .val (.int p2), .val (.long p3), .second, .val (.int (0 : Int32)), .val (.int (1 : Int32)), .val (.int (2 : Int32)), .val (.int (1 : Int32)), .val (.int n5), .val (.int n6), .val (.int n7), .val (.int n8), .val (.int n9), .val (.int n10), .val (.int n11), .val (.int n12), .val (.int n13), .val (.int n14), .val (.int n15), .val (.ref b16), .val (.int r156), .unset, .unset, .unset, .unset, .unset, .unset, .unset, .unset, .unset]) rfl at_303 (pc' := 305) rfl ?_
              refine own_lconst X155 hx hby (v := (0 : Int64)) (by decide) at_305 (pc' := 306) rfl ?_
              refine own_lstore X155 hx hby (L' := #[.val (.int p0), .val (.int p1), .val (.int p2), .val (.long p3), .second, .val (.int (0 : Int32)), .val (.int (1 : Int32)), .val (.int (2 : Int32)), .val (.int (1 : Int32)), .val (.int n5), .val (.int n6), .val (.int n7), .val (.int n8), .val (.int n9), .val (.int n10), .val (.int n11), .val (.int n12), .val (.int n13), .val (.int n14), .val (.int n15), .val (.ref b16), .val (.int r156), .val (.long (0 : Int64)), .second, .unset, .unset, .unset, .unset, .unset, .unset, .unset]) rfl at_306 (pc' := 308) rfl ?_
              refine own_iload X155 hx hby rfl at_308 (pc' := 310) rfl ?_
              refine own_iconst X155 hx hby (v := (1 : Int32)) (by decide) at_310 (pc' := 311) rfl ?_
              refine own_icF X155 hx hby at_311 (by decide) (pc' := 314) rfl ?_
              refine own_lload X155 hx hby rfl at_314 (pc' := 316) rfl ?_
              refine own_ldc2L X155 hx hby hZ hown (hw _ (List.mem_of_getElem? (i := 44) rfl)) at_316 (pc' := 319) rfl ?_
              refine own_iload X155 hx hby rfl at_319 (pc' := 321) rfl ?_
              refine own_i2l X155 hx hby rfl at_321 (pc' := 322) rfl ?_
              refine own_lmul X155 hx hby rfl at_322 (pc' := 323) rfl ?_
              refine own_iconst X155 hx hby (v := (4 : Int32)) (by decide) at_323 (pc' := 324) rfl ?_
              refine own_iload X155 hx hby rfl at_324 (pc' := 326) rfl ?_
              refine own_isub X155 hx hby rfl at_326 (pc' := 327) rfl ?_
              refine own_i2l X155 hx hby rfl at_327 (pc' := 328) rfl ?_
              refine own_ldiv X155 hx hby (own_nzL (own_4q R_n6) (own_4qd R_n6).1) rfl at_328 (pc' := 329) rfl ?_
              refine own_ladd X155 hx hby rfl at_329 (pc' := 330) rfl ?_
              generalize q_n157 : ((0 : Int64) + (((12 : Int64) * (n10.toInt64)) / (((4 : Int32) - n6).toInt64))) = n157
              refine own_lstore X155 hx hby (L' := #[.val (.int p0), .val (.int p1), .val (.int p2), .val (.long p3), .second, .val (.int (0 : Int32)), .val (.int (1 : Int32)), .val (.int (2 : Int32)), .val (.int (1 : Int32)), .val (.int n5), .val (.int n6), .val (.int n7), .val (.int n8), .val (.int n9), .val (.int n10), .val (.int n11), .val (.int n12), .val (.int n13), .val (.int n14), .val (.int n15), .val (.ref b16), .val (.int r156), .val (.long n157), .second, .unset, .unset, .unset, .unset, .unset, .unset, .unset]) rfl at_330 (pc' := 332) rfl ?_
              refine own_iload X155 hx hby rfl at_332 (pc' := 334) rfl ?_
              refine own_iconst X155 hx hby (v := (2 : Int32)) (by decide) at_334 (pc' := 335) rfl ?_
              refine own_icF X155 hx hby at_335 (by decide) (pc' := 338) rfl ?_
              refine own_lload X155 hx hby rfl at_338 (pc' := 340) rfl ?_
              refine own_ldc2L X155 hx hby hZ hown (hw _ (List.mem_of_getElem? (i := 44) rfl)) at_340 (pc' := 343) rfl ?_
              refine own_iload X155 hx hby rfl at_343 (pc' := 345) rfl ?_
              refine own_i2l X155 hx hby rfl at_345 (pc' := 346) rfl ?_
              refine own_lmul X155 hx hby rfl at_346 (pc' := 347) rfl ?_
              refine own_iconst X155 hx hby (v := (4 : Int32)) (by decide) at_347 (pc' := 348) rfl ?_
              refine own_iload X155 hx hby rfl at_348 (pc' := 350) rfl ?_
              refine own_isub X155 hx hby rfl at_350 (pc' := 351) rfl ?_
              refine own_i2l X155 hx hby rfl at_351 (pc' := 352) rfl ?_
              refine own_ldiv X155 hx hby (own_nzL (own_4q R_n7) (own_4qd R_n7).1) rfl at_352 (pc' := 353) rfl ?_
              refine own_ladd X155 hx hby rfl at_353 (pc' := 354) rfl ?_
              generalize q_n158 : (n157 + (((12 : Int64) * (n11.toInt64)) / (((4 : Int32) - n7).toInt64))) = n158
              refine own_lstore X155 hx hby (L' := #[.val (.int p0), .val (.int p1), .val (.int p2), .val (.long p3), .second, .val (.int (0 : Int32)), .val (.int (1 : Int32)), .val (.int (2 : Int32)), .val (.int (1 : Int32)), .val (.int n5), .val (.int n6), .val (.int n7), .val (.int n8), .val (.int n9), .val (.int n10), .val (.int n11), .val (.int n12), .val (.int n13), .val (.int n14), .val (.int n15), .val (.ref b16), .val (.int r156), .val (.long n158), .second, .unset, .unset, .unset, .unset, .unset, .unset, .unset]) rfl at_354 (pc' := 356) rfl ?_
              refine own_lconst X155 hx hby (v := (0 : Int64)) (by decide) at_356 (pc' := 357) rfl ?_
              refine own_lstore X155 hx hby (L' := #[.val (.int p0), .val (.int p1), .val (.int p2), .val (.long p3), .second, .val (.int (0 : Int32)), .val (.int (1 : Int32)), .val (.int (2 : Int32)), .val (.int (1 : Int32)), .val (.int n5), .val (.int n6), .val (.int n7), .val (.int n8), .val (.int n9), .val (.int n10), .val (.int n11), .val (.int n12), .val (.int n13), .val (.int n14), .val (.int n15), .val (.ref b16), .val (.int r156), .val (.long n158), .second, .val (.long (0 : Int64)), .second, .unset, .unset, .unset, .unset, .unset]) rfl at_357 (pc' := 359) rfl ?_
              refine own_iload X155 hx hby rfl at_359 (pc' := 361) rfl ?_
              refine own_iconst X155 hx hby (v := (1 : Int32)) (by decide) at_361 (pc' := 362) rfl ?_
              refine own_icF X155 hx hby at_362 (by decide) (pc' := 365) rfl ?_
              refine own_lload X155 hx hby rfl at_365 (pc' := 367) rfl ?_
              refine own_ldc2L X155 hx hby hZ hown (hw _ (List.mem_of_getElem? (i := 44) rfl)) at_367 (pc' := 370) rfl ?_
              refine own_iload X155 hx hby rfl at_370 (pc' := 372) rfl ?_
              refine own_i2l X155 hx hby rfl at_372 (pc' := 373) rfl ?_
              refine own_lmul X155 hx hby rfl at_373 (pc' := 374) rfl ?_
              refine own_iload X155 hx hby rfl at_374 (pc' := 376) rfl ?_
              refine own_i2l X155 hx hby rfl at_376 (pc' := 377) rfl ?_
              refine own_ldiv X155 hx hby (own_nzL (c_i2l n8) R_n8.1) rfl at_377 (pc' := 378) rfl ?_
              refine own_ladd X155 hx hby rfl at_378 (pc' := 379) rfl ?_
              generalize q_n159 : ((0 : Int64) + (((12 : Int64) * (n12.toInt64)) / (n8.toInt64))) = n159
              refine own_lstore X155 hx hby (L' := #[.val (.int p0), .val (.int p1), .val (.int p2), .val (.long p3), .second, .val (.int (0 : Int32)), .val (.int (1 : Int32)), .val (.int (2 : Int32)), .val (.int (1 : Int32)), .val (.int n5), .val (.int n6), .val (.int n7), .val (.int n8), .val (.int n9), .val (.int n10), .val (.int n11), .val (.int n12), .val (.int n13), .val (.int n14), .val (.int n15), .val (.ref b16), .val (.int r156), .val (.long n158), .second, .val (.long n159), .second, .unset, .unset, .unset, .unset, .unset]) rfl at_379 (pc' := 381) rfl ?_
              as_aux_lemma =>
                refine own_iload X155 hx hby rfl at_381 (pc' := 383) rfl ?_
                refine own_iconst X155 hx hby (v := (2 : Int32)) (by decide) at_383 (pc' := 384) rfl ?_
                refine own_icT X155 hx hby at_384 (by decide) (by decide) (pc' := 403) (by decide) ?_
                refine own_iload X155 hx hby rfl at_403 (pc' := 405) rfl ?_
                refine own_ifT X155 hx hby at_405 (by decide) (by decide) (pc' := 414) (by decide) ?_
                refine own_iload X155 hx hby rfl at_414 (pc' := 416) rfl ?_
                refine own_iconst X155 hx hby (v := (1 : Int32)) (by decide) at_416 (pc' := 417) rfl ?_
                refine own_icT X155 hx hby at_417 (by decide) (by decide) (pc' := 429) (by decide) ?_
                refine own_lload X155 hx hby rfl at_429 (pc' := 431) rfl ?_
                refine own_lstore X155 hx hby (L' := #[.val (.int p0), .val (.int p1), .val (.int p2), .val (.long p3), .second, .val (.int (0 : Int32)), .val (.int (1 : Int32)), .val (.int (2 : Int32)), .val (.int (1 : Int32)), .val (.int n5), .val (.int n6), .val (.int n7), .val (.int n8), .val (.int n9), .val (.int n10), .val (.int n11), .val (.int n12), .val (.int n13), .val (.int n14), .val (.int n15), .val (.ref b16), .val (.int r156), .val (.long n158), .second, .val (.long n159), .second, .val (.long n158), .second, .unset, .unset, .unset]) rfl at_431 (pc' := 433) rfl ?_
                refine own_iload X155 hx hby rfl at_433 (pc' := 435) rfl ?_
                refine own_ifT X155 hx hby at_435 (by decide) (by decide) (pc' := 444) (by decide) ?_
                refine own_iload X155 hx hby rfl at_444 (pc' := 446) rfl ?_
                refine own_iconst X155 hx hby (v := (1 : Int32)) (by decide) at_446 (pc' := 447) rfl ?_
                refine own_icF X155 hx hby at_447 (by decide) (pc' := 450) rfl ?_
                refine own_ldc2L X155 hx hby hZ hown (hw _ (List.mem_of_getElem? (i := 42) rfl)) at_450 (pc' := 453) rfl ?_
                refine own_lload X155 hx hby rfl at_453 (pc' := 455) rfl ?_
                refine own_lmul X155 hx hby rfl at_455 (pc' := 456) rfl ?_
                refine own_goto X155 hx hby at_456 (by decide) (pc' := 461) (by decide) ?_
                generalize q_n160 : ((2 : Int64) * n159) = n160
                refine own_lstore X155 hx hby (L' := #[.val (.int p0), .val (.int p1), .val (.int p2), .val (.long p3), .second, .val (.int (0 : Int32)), .val (.int (1 : Int32)), .val (.int (2 : Int32)), .val (.int (1 : Int32)), .val (.int n5), .val (.int n6), .val (.int n7), .val (.int n8), .val (.int n9), .val (.int n10), .val (.int n11), .val (.int n12), .val (.int n13), .val (.int n14), .val (.int n15), .val (.ref b16), .val (.int r156), .val (.long n158), .second, .val (.long n159), .second, .val (.long n158), .second, .val (.long n160), .second, .unset]) rfl at_461 (pc' := 463) rfl ?_
                have tw_n157 := own_tw (k := n10) (own_4q R_n6) (own_4qd R_n6) (own_k10 q_n10)
                have bq_n157 := own_dq (n := (4 - n6.toInt)) (k := n10.toInt) (own_4qd R_n6) (own_k10 q_n10)
                have et_n157 : n157.toInt = (0 + 12 * n10.toInt / (4 - n6.toInt)) := own_ls q_n157 own_e0 tw_n157 (own_w3 own_b0) bq_n157
                have tw_n158 := own_tw (k := n11) (own_4q R_n7) (own_4qd R_n7) (own_k10 q_n11)
                have bq_n158 := own_dq (n := (4 - n7.toInt)) (k := n11.toInt) (own_4qd R_n7) (own_k10 q_n11)
                have et_n158 : n158.toInt = ((0 + 12 * n10.toInt / (4 - n6.toInt)) + 12 * n11.toInt / (4 - n7.toInt)) := own_ls q_n158 et_n157 tw_n158 (own_b1' bq_n157) bq_n158
                have eu := et_n158
                have tw_n159 := own_tw (k := n12) (c_i2l n8) R_n8 (own_k10 q_n12)
                have bq_n159 := own_dq (n := n8.toInt) (k := n12.toInt) R_n8 (own_k10 q_n12)
                have et_n159 : n159.toInt = (0 + 12 * n12.toInt / n8.toInt) := own_ls q_n159 own_e0 tw_n159 (own_w3 own_b0) bq_n159
                have ed : n160.toInt = 2 * (0 + 12 * n12.toInt / n8.toInt) := own_l2 q_n160 et_n159 (own_b1' bq_n159)
                refine own_lload X155 hx hby rfl at_463 (pc' := 465) rfl ?_
                refine own_bipush X155 hx hby (v := (8 : Int32)) (by decide) at_465 (pc' := 467) rfl ?_
                refine own_iload X155 hx hby rfl at_467 (pc' := 469) rfl ?_
                refine own_isub X155 hx hby rfl at_469 (pc' := 470) rfl ?_
                refine own_i2l X155 hx hby rfl at_470 (pc' := 471) rfl ?_
                refine own_lmul X155 hx hby rfl at_471 (pc' := 472) rfl ?_
                refine own_lload X155 hx hby rfl at_472 (pc' := 474) rfl ?_
                refine own_iload X155 hx hby rfl at_474 (pc' := 476) rfl ?_
                refine own_i2l X155 hx hby rfl at_476 (pc' := 477) rfl ?_
                refine own_lmul X155 hx hby rfl at_477 (pc' := 478) rfl ?_
                generalize q_n161 : (n158 * (((8 : Int32) - n5).toInt64)) = n161
                generalize q_n162 : (n160 * (n5.toInt64)) = n162
                refine own_lcmp X155 hx hby rfl at_478 (pc' := 479) rfl ?_
                obtain ⟨w163, q_w163⟩ : ∃ z : Int32, (if n162 < n161 then (0 : Int32) else (1 : Int32)) = z := ⟨_, rfl⟩
                refine own_join (S' := T155.setTop (mkF m 487 #[.val (.int p0), .val (.int p1), .val (.int p2), .val (.long p3), .second, .val (.int (0 : Int32)), .val (.int (1 : Int32)), .val (.int (2 : Int32)), .val (.int (1 : Int32)), .val (.int n5), .val (.int n6), .val (.int n7), .val (.int n8), .val (.int n9), .val (.int n10), .val (.int n11), .val (.int n12), .val (.int n13), .val (.int n14), .val (.int n15), .val (.ref b16), .val (.int r156), .val (.long n158), .second, .val (.long n159), .second, .val (.long n158), .second, .val (.long n160), .second, .unset] [(.int w163)])) (fun F' k' => ?_) ?_
                · rw [← q_w163] at k'
                  by_cases hc164 : n162 < n161
                  · simp only [if_pos hc164] at k'
                    refine own_ifT X155 hx hby at_479 (own_lc_gt_p hc164) (by decide) (pc' := 486) (by decide) ?_
                    refine own_iconst X155 hx hby (v := (0 : Int32)) (by decide) at_486 (pc' := 487) rfl ?_
                    exact k'
                  · simp only [if_neg hc164] at k'
                    refine own_ifF X155 hx hby at_479 (own_lc_gt_n hc164) (pc' := 482) rfl ?_
                    refine own_iconst X155 hx hby (v := (1 : Int32)) (by decide) at_482 (pc' := 483) rfl ?_
                    refine own_goto X155 hx hby at_483 (by decide) (pc' := 487) (by decide) ?_
                    exact k'
                refine own_istore X155 hx hby (L' := #[.val (.int p0), .val (.int p1), .val (.int p2), .val (.long p3), .second, .val (.int (0 : Int32)), .val (.int (1 : Int32)), .val (.int (2 : Int32)), .val (.int (1 : Int32)), .val (.int n5), .val (.int n6), .val (.int n7), .val (.int n8), .val (.int n9), .val (.int n10), .val (.int n11), .val (.int n12), .val (.int n13), .val (.int n14), .val (.int n15), .val (.ref b16), .val (.int r156), .val (.long n158), .second, .val (.long n159), .second, .val (.long n158), .second, .val (.long n160), .second, .val (.int w163)]) rfl at_487 (pc' := 489) rfl ?_
                refine own_iload X155 hx hby rfl at_489 (pc' := 491) rfl ?_
                refine own_iload X155 hx hby rfl at_491 (pc' := 493) rfl ?_
                have hk165 : r156 = w163 := own_fin SD.2.2.2 R9 (own_t1 (own_b2 b_v131 b_v136)) (own_t2 (own_b1' b_v152)) eu ed q_r156 q_n161 q_n162 q_w163
                refine own_icF X155 hx hby at_493 (own_ic_ne_p hk165) (pc' := 496) rfl ?_
                refine own_iconst X155 hx hby (v := (1 : Int32)) (by decide) at_496 (pc' := 497) rfl ?_
                refine own_goto X155 hx hby at_497 (by decide) (pc' := 501) (by decide) ?_
                exact own_retZ X155 hx hby Bd.notSynchronized Bd.returns (Or.inr rfl) at_501 (by decide) (by decide) eH155 ⟨rfl, N155⟩
          · as_aux_lemma =>
              refine own_iload X135 hx hby rfl at_237 (pc' := 239) rfl ?_
              refine own_iconst X135 hx hby (v := (1 : Int32)) (by decide) at_239 (pc' := 240) rfl ?_
              refine own_icF X135 hx hby at_240 (by decide) (pc' := 243) rfl ?_
              refine own_aload X135 hx hby rfl rfl at_243 (pc' := 245) rfl ?_
              refine own_iload X135 hx hby rfl at_245 (pc' := 247) rfl ?_
              refine own_iconst X135 hx hby (v := (0 : Int32)) (by decide) at_247 (pc' := 248) rfl ?_
              refine own_iload X135 hx hby rfl at_248 (pc' := 250) rfl ?_
              obtain ⟨v166, q_v166⟩ : ∃ z : UInt64, (FP.i2d n8) = z := ⟨_, rfl⟩
              have D_v166 : Dy v166 n8.toInt 0 := q_v166 ▸ dy_i2d n8
              refine own_i2d X135 hx hby q_v166 at_250 (pc' := 251) rfl ?_
              refine own_ldc2D X135 hx hby hZ hown (hw _ (List.mem_of_getElem? (i := 43) rfl)) at_251 (pc' := 254) rfl ?_
              obtain ⟨v167, q_v167⟩ : ∃ z : UInt64, (FP.ddiv v166 (4616189618054758400 : UInt64)) = z := ⟨_, rfl⟩
              have R_n8 := own_q3r q_n8
              have D_v167 : Dy v167 n8.toInt 2 := own_div4 q_v167 D_v166 R_n8
              have nn_v167 := D_v167.nn
              refine own_ddiv X135 hx hby (by rw [q_v167]; exact nn_v167) q_v167 at_254 (pc' := 255) rfl ?_
              refine own_iconst X135 hx hby (v := (3 : Int32)) (by decide) at_255 (pc' := 256) rfl ?_
              refine own_iload X135 hx hby rfl at_256 (pc' := 258) rfl ?_
              refine own_imul X135 hx hby rfl at_258 (pc' := 259) rfl ?_
              obtain ⟨v168, q_v168⟩ : ∃ z : UInt64, (FP.i2d ((3 : Int32) * n12)) = z := ⟨_, rfl⟩
              have D_v168 : Dy v168 (3 * n12.toInt) 0 := q_v168 ▸ (dy_i2d ((3 : Int32) * n12)).to (own_3k (own_k10 q_n12))
              refine own_i2d X135 hx hby q_v168 at_259 (pc' := 260) rfl ?_
              have LU260g := own_g D_v167 R_n8
              have LU260 := own_dn D_v167 R_n8 D_v168 (own_k10 q_n12) own_d0 own_b0
              refine own_virtual X135 hx hby hZ (y := (⟨"com/example/bidfold/bidfold/Branching", "learn", "(IZDD)V"⟩ : MethodName)) (y' := (⟨"com/example/bidfold/bidfold/Branching", "learn", "(IZDD)V"⟩ : MethodName)) (C := "com/example/bidfold/bidfold/Branching") (rest := []) hown (hw _ (List.mem_of_getElem? (i := 26) rfl)) (hw _ (List.mem_of_getElem? (i := 27) rfl)) (notFace_of_selects (args := #[]) (mvT hZ (hw _ (List.mem_of_getElem? (i := 29) rfl)))) (hw _ (List.mem_of_getElem? (i := 29) rfl)) (hw _ (List.mem_of_getElem? (i := 28) rfl)) (hw _ (List.mem_of_getElem? (i := 30) rfl)) (hw _ (List.mem_of_getElem? (i := 2) rfl)) (by decide) (rm300 l Z a0 hw [] b16 v167 v168 b4_17 b6_17 (0 : UInt64) v23 (0 : Int32) (1 : Int32) h135 n0 Z0 F_b16_downFalls F_b16_downCounts V_b4_17 V_b6_17 LU260g.1 LU260g.2 LU260.1 LU260.2.1 g_b4_17 ne_b16_b4_17 (Ne.symm ne_b4_17_b6_17) g_b6_17 ne_b16_b6_17) eH135 (by rw [hml]; rfl) (a := b16) E_b16 (argsL := [(.int (0 : Int32)), (.int (0 : Int32)), (.double v167), (.double v168)]) rfl (lenOf pd_2 rfl) rfl at_260 (pc' := 263) rfl (by decide) (W := 0) (Nat.le_of_eq rfl) (by decide) (by decide) (by decide) (fun T169 h169 Lc169 v169r X169 eH169 hQ169 => ?_)
              obtain ⟨rfl, Nq169, Kq169, gq169_0, gq169_1⟩ := hQ169
              have N169 := Fr.app N135 Nq169
              replace E_b16 := E_b16.keep Kq169
              replace F_b16_downFalls := F_b16_downFalls.keep Kq169 (ninS ne_b16_b4_17 (ninS ne_b16_b6_17 nin0))
              replace F_b16_downCounts := F_b16_downCounts.keep Kq169 (ninS ne_b16_b4_17 (ninS ne_b16_b6_17 nin0))
              replace F_b16_upFalls := F_b16_upFalls.keep Kq169 (ninS ne_b16_b4_17 (ninS ne_b16_b6_17 nin0))
              replace F_b16_upCounts := F_b16_upCounts.keep Kq169 (ninS ne_b16_b4_17 (ninS ne_b16_b6_17 nin0))
              replace E_b4_17 := E_b4_17.keep Kq169
              replace E_b6_17 := E_b6_17.keep Kq169
              replace E_b8_17 := E_b8_17.keep Kq169
              replace V_b8_17 := V_b8_17.keep Kq169 (ninS (Ne.symm ne_b4_17_b8_17) (ninS (Ne.symm ne_b6_17_b8_17) nin0))
              replace E_b10_17 := E_b10_17.keep Kq169
              replace V_b10_17 := V_b10_17.keep Kq169 (ninS (Ne.symm ne_b4_17_b10_17) (ninS (Ne.symm ne_b6_17_b10_17) nin0))
              obtain ⟨v170, q_v170⟩ : ∃ z : UInt64, (FP.dadd (0 : UInt64) (FP.ddiv v168 v167)) = z := ⟨_, rfl⟩
              have V_b4_17 : Ary tr Z h169 b4_17 .double [(.double v170), (.double v23)] := by rw [← q_v170]; exact gq169_0
              rw [show ((0 : Int32) + (1 : Int32)) = (1 : Int32) from by decide] at gq169_1
              have V_b6_17 := gq169_1
              replace Z0 := Nat.le_trans Z0 Kq169.1
              have S_v170 : Dy v170 (0 + 12 * n12.toInt / n8.toInt) 0 := by have q := LU260.2.2; rwa [q_v170] at q
              have b_v170 := own_dq (n := n8.toInt) (k := n12.toInt) R_n8 (own_k10 q_n12)
              refine own_iload X169 hx hby rfl at_263 (pc' := 265) rfl ?_
              refine own_iconst X169 hx hby (v := (2 : Int32)) (by decide) at_265 (pc' := 266) rfl ?_
              refine own_icF X169 hx hby at_266 (by decide) (pc' := 269) rfl ?_
              refine own_aload X169 hx hby rfl rfl at_269 (pc' := 271) rfl ?_
              refine own_iload X169 hx hby rfl at_271 (pc' := 273) rfl ?_
              refine own_iconst X169 hx hby (v := (0 : Int32)) (by decide) at_273 (pc' := 274) rfl ?_
              refine own_iload X169 hx hby rfl at_274 (pc' := 276) rfl ?_
              obtain ⟨v171, q_v171⟩ : ∃ z : UInt64, (FP.i2d n9) = z := ⟨_, rfl⟩
              have D_v171 : Dy v171 n9.toInt 0 := q_v171 ▸ dy_i2d n9
              refine own_i2d X169 hx hby q_v171 at_276 (pc' := 277) rfl ?_
              refine own_ldc2D X169 hx hby hZ hown (hw _ (List.mem_of_getElem? (i := 43) rfl)) at_277 (pc' := 280) rfl ?_
              obtain ⟨v172, q_v172⟩ : ∃ z : UInt64, (FP.ddiv v171 (4616189618054758400 : UInt64)) = z := ⟨_, rfl⟩
              have R_n9 := own_q3r q_n9
              have D_v172 : Dy v172 n9.toInt 2 := own_div4 q_v172 D_v171 R_n9
              have nn_v172 := D_v172.nn
              refine own_ddiv X169 hx hby (by rw [q_v172]; exact nn_v172) q_v172 at_280 (pc' := 281) rfl ?_
              refine own_iconst X169 hx hby (v := (3 : Int32)) (by decide) at_281 (pc' := 282) rfl ?_
              refine own_iload X169 hx hby rfl at_282 (pc' := 284) rfl ?_
              refine own_imul X169 hx hby rfl at_284 (pc' := 285) rfl ?_
              obtain ⟨v173, q_v173⟩ : ∃ z : UInt64, (FP.i2d ((3 : Int32) * n13)) = z := ⟨_, rfl⟩
              have D_v173 : Dy v173 (3 * n13.toInt) 0 := q_v173 ▸ (dy_i2d ((3 : Int32) * n13)).to (own_3k (own_k10 q_n13))
              refine own_i2d X169 hx hby q_v173 at_285 (pc' := 286) rfl ?_
              have LU286g := own_g D_v172 R_n9
              have LU286 := own_dn D_v172 R_n9 D_v173 (own_k10 q_n13) S_v170 (own_b1 b_v170)
              refine own_virtual X169 hx hby hZ (y := (⟨"com/example/bidfold/bidfold/Branching", "learn", "(IZDD)V"⟩ : MethodName)) (y' := (⟨"com/example/bidfold/bidfold/Branching", "learn", "(IZDD)V"⟩ : MethodName)) (C := "com/example/bidfold/bidfold/Branching") (rest := []) hown (hw _ (List.mem_of_getElem? (i := 26) rfl)) (hw _ (List.mem_of_getElem? (i := 27) rfl)) (notFace_of_selects (args := #[]) (mvT hZ (hw _ (List.mem_of_getElem? (i := 29) rfl)))) (hw _ (List.mem_of_getElem? (i := 29) rfl)) (hw _ (List.mem_of_getElem? (i := 28) rfl)) (hw _ (List.mem_of_getElem? (i := 30) rfl)) (hw _ (List.mem_of_getElem? (i := 2) rfl)) (by decide) (rm300 l Z a0 hw [] b16 v172 v173 b4_17 b6_17 v170 v23 (1 : Int32) (1 : Int32) h169 n0 Z0 F_b16_downFalls F_b16_downCounts V_b4_17 V_b6_17 LU286g.1 LU286g.2 LU286.1 LU286.2.1 g_b4_17 ne_b16_b4_17 (Ne.symm ne_b4_17_b6_17) g_b6_17 ne_b16_b6_17) eH169 (by rw [hml]; rfl) (a := b16) E_b16 (argsL := [(.int (0 : Int32)), (.int (0 : Int32)), (.double v172), (.double v173)]) rfl (lenOf pd_2 rfl) rfl at_286 (pc' := 289) rfl (by decide) (W := 0) (Nat.le_of_eq rfl) (by decide) (by decide) (by decide) (fun T174 h174 Lc174 v174r X174 eH174 hQ174 => ?_)
              obtain ⟨rfl, Nq174, Kq174, gq174_0, gq174_1⟩ := hQ174
              have N174 := Fr.app N169 Nq174
              replace E_b16 := E_b16.keep Kq174
              replace F_b16_downFalls := F_b16_downFalls.keep Kq174 (ninS ne_b16_b4_17 (ninS ne_b16_b6_17 nin0))
              replace F_b16_downCounts := F_b16_downCounts.keep Kq174 (ninS ne_b16_b4_17 (ninS ne_b16_b6_17 nin0))
              replace F_b16_upFalls := F_b16_upFalls.keep Kq174 (ninS ne_b16_b4_17 (ninS ne_b16_b6_17 nin0))
              replace F_b16_upCounts := F_b16_upCounts.keep Kq174 (ninS ne_b16_b4_17 (ninS ne_b16_b6_17 nin0))
              replace E_b4_17 := E_b4_17.keep Kq174
              replace E_b6_17 := E_b6_17.keep Kq174
              replace E_b8_17 := E_b8_17.keep Kq174
              replace V_b8_17 := V_b8_17.keep Kq174 (ninS (Ne.symm ne_b4_17_b8_17) (ninS (Ne.symm ne_b6_17_b8_17) nin0))
              replace E_b10_17 := E_b10_17.keep Kq174
              replace V_b10_17 := V_b10_17.keep Kq174 (ninS (Ne.symm ne_b4_17_b10_17) (ninS (Ne.symm ne_b6_17_b10_17) nin0))
              obtain ⟨v175, q_v175⟩ : ∃ z : UInt64, (FP.dadd v170 (FP.ddiv v173 v172)) = z := ⟨_, rfl⟩
              have V_b4_17 : Ary tr Z h174 b4_17 .double [(.double v175), (.double v23)] := by rw [← q_v175]; exact gq174_0
              rw [show ((1 : Int32) + (1 : Int32)) = (2 : Int32) from by decide] at gq174_1
              have V_b6_17 := gq174_1
              replace Z0 := Nat.le_trans Z0 Kq174.1
              have S_v175 : Dy v175 ((0 + 12 * n12.toInt / n8.toInt) + 12 * n13.toInt / n9.toInt) 0 := by have q := LU286.2.2; rwa [q_v175] at q
              have b_v175 := own_dq (n := n9.toInt) (k := n13.toInt) R_n9 (own_k10 q_n13)
              refine own_aload X174 hx hby rfl rfl at_289 (pc' := 291) rfl ?_
              refine own_iload X174 hx hby rfl at_291 (pc' := 293) rfl ?_
              refine own_iload X174 hx hby rfl at_293 (pc' := 295) rfl ?_
              obtain ⟨v176, q_v176⟩ : ∃ z : UInt64, (FP.i2d n5) = z := ⟨_, rfl⟩
              have D_v176 : Dy v176 n5.toInt 0 := q_v176 ▸ dy_i2d n5
              refine own_i2d X174 hx hby q_v176 at_295 (pc' := 296) rfl ?_
              refine own_ldc2D X174 hx hby hZ hown (hw _ (List.mem_of_getElem? (i := 33) rfl)) at_296 (pc' := 299) rfl ?_
              obtain ⟨v177, q_v177⟩ : ∃ z : UInt64, (FP.ddiv v176 (4620693217682128896 : UInt64)) = z := ⟨_, rfl⟩
              have R9 := own_r9 q_n5
              have D_v177 : Dy v177 n5.toInt 3 := own_div8 q_v177 D_v176 R9
              have nn_v177 := D_v177.nn
              refine own_ddiv X174 hx hby (by rw [q_v177]; exact nn_v177) q_v177 at_299 (pc' := 300) rfl ?_
              have MA0 := own_f2 S_v136 (own_b2 b_v131 b_v136)
              have MA := own_ifp (p := 0 < (2 : Int32)) (by decide) (y := (4607182418800017408 : UInt64)) MA0
              have MB0 := own_f2 S_v175 (own_b2 b_v170 b_v175)
              have MB := own_ifp (p := 0 < (2 : Int32)) (by decide) (y := (4607182418800017408 : UInt64)) MB0
              have SD := own_sides MA MB (own_t1 (own_b2 b_v131 b_v136)) (own_t1 (own_b2 b_v170 b_v175)) D_v177 R9
              refine own_virtual X174 hx hby hZ (y := (⟨"com/example/bidfold/bidfold/Branching", "leansIn", "(ID)Z"⟩ : MethodName)) (y' := (⟨"com/example/bidfold/bidfold/Branching", "leansIn", "(ID)Z"⟩ : MethodName)) (C := "com/example/bidfold/bidfold/Branching") (rest := []) hown (hw _ (List.mem_of_getElem? (i := 34) rfl)) (hw _ (List.mem_of_getElem? (i := 35) rfl)) (notFace_of_selects (args := #[]) (mvT hZ (hw _ (List.mem_of_getElem? (i := 37) rfl)))) (hw _ (List.mem_of_getElem? (i := 37) rfl)) (hw _ (List.mem_of_getElem? (i := 36) rfl)) (hw _ (List.mem_of_getElem? (i := 38) rfl)) (hw _ (List.mem_of_getElem? (i := 2) rfl)) (by decide) (rm40 l Z a0 hw [] b16 v177 b8_17 b10_17 v136 v20 (2 : Int32) (1 : Int32) b4_17 b6_17 v175 v23 (2 : Int32) (1 : Int32) h174 n0 Z0 F_b16_upFalls F_b16_upCounts V_b8_17 V_b10_17 F_b16_downFalls F_b16_downCounts V_b4_17 V_b6_17 (fun _ => MA0.nn) SD.1 SD.2.1 (fun _ => MB0.nn) SD.2.2.1) eH174 (by rw [hml]; rfl) (a := b16) E_b16 (argsL := [(.int (0 : Int32)), (.double v177)]) rfl (lenOf pd_3 rfl) rfl at_300 (pc' := 303) rfl (by decide) (W := 0) (Nat.le_of_eq rfl) (by decide) (by decide) (by decide) (fun T178 h178 Lc178 v178r X178 eH178 hQ178 => ?_)
              obtain ⟨rfl, Nq178, rfl⟩ := hQ178
              have N178 := Fr.app N174 Nq178
              dsimp only [Option.toList, List.cons_append, List.nil_append]
              generalize q_r179 : (if dle (FP.dmul (if 0 < (2 : Int32) then (FP.ddiv v136 (FP.i2d (2 : Int32))) else (4607182418800017408 : UInt64)) (FP.dsub (4607182418800017408 : UInt64) v177)) (FP.dmul (if 0 < (2 : Int32) then (FP.ddiv v175 (FP.i2d (2 : Int32))) else (4607182418800017408 : UInt64)) v177) then (1 : Int32) else (0 : Int32)) = r179
              refine own_istore X178 hx hby (L' := #[.val (.int p0), .val (.int p1), .val (.int p2), .val (.long p3), .second, .val (.int (0 : Int32)), .val (.int (1 : Int32)), .val (.int (2 : Int32)), .val (.int (2 : Int32)), .val (.int n5), .val (.int n6), .val (.int n7), .val (.int n8), .val (.int n9), .val (.int n10), .val (.int n11), .val (.int n12), .val (.int n13), .val (.int n14), .val (.int n15), .val (.ref b16), .val (.int r179), .unset, .unset, .unset, .unset, .unset, .unset, .unset, .unset, .unset]) rfl at_303 (pc' := 305) rfl ?_
              refine own_lconst X178 hx hby (v := (0 : Int64)) (by decide) at_305 (pc' := 306) rfl ?_
              refine own_lstore X178 hx hby (L' := #[.val (.int p0), .val (.int p1), .val (.int p2), .val (.long p3), .second, .val (.int (0 : Int32)), .val (.int (1 : Int32)), .val (.int (2 : Int32)), .val (.int (2 : Int32)), .val (.int n5), .val (.int n6), .val (.int n7), .val (.int n8), .val (.int n9), .val (.int n10), .val (.int n11), .val (.int n12), .val (.int n13), .val (.int n14), .val (.int n15), .val (.ref b16), .val (.int r179), .val (.long (0 : Int64)), .second, .unset, .unset, .unset, .unset, .unset, .unset, .unset]) rfl at_306 (pc' := 308) rfl ?_
              refine own_iload X178 hx hby rfl at_308 (pc' := 310) rfl ?_
              refine own_iconst X178 hx hby (v := (1 : Int32)) (by decide) at_310 (pc' := 311) rfl ?_
              refine own_icF X178 hx hby at_311 (by decide) (pc' := 314) rfl ?_
              refine own_lload X178 hx hby rfl at_314 (pc' := 316) rfl ?_
              refine own_ldc2L X178 hx hby hZ hown (hw _ (List.mem_of_getElem? (i := 44) rfl)) at_316 (pc' := 319) rfl ?_
              refine own_iload X178 hx hby rfl at_319 (pc' := 321) rfl ?_
              as_aux_lemma =>
                refine own_i2l X178 hx hby rfl at_321 (pc' := 322) rfl ?_
                refine own_lmul X178 hx hby rfl at_322 (pc' := 323) rfl ?_
                refine own_iconst X178 hx hby (v := (4 : Int32)) (by decide) at_323 (pc' := 324) rfl ?_
                refine own_iload X178 hx hby rfl at_324 (pc' := 326) rfl ?_
                refine own_isub X178 hx hby rfl at_326 (pc' := 327) rfl ?_
                refine own_i2l X178 hx hby rfl at_327 (pc' := 328) rfl ?_
                refine own_ldiv X178 hx hby (own_nzL (own_4q R_n6) (own_4qd R_n6).1) rfl at_328 (pc' := 329) rfl ?_
                refine own_ladd X178 hx hby rfl at_329 (pc' := 330) rfl ?_
                generalize q_n180 : ((0 : Int64) + (((12 : Int64) * (n10.toInt64)) / (((4 : Int32) - n6).toInt64))) = n180
                refine own_lstore X178 hx hby (L' := #[.val (.int p0), .val (.int p1), .val (.int p2), .val (.long p3), .second, .val (.int (0 : Int32)), .val (.int (1 : Int32)), .val (.int (2 : Int32)), .val (.int (2 : Int32)), .val (.int n5), .val (.int n6), .val (.int n7), .val (.int n8), .val (.int n9), .val (.int n10), .val (.int n11), .val (.int n12), .val (.int n13), .val (.int n14), .val (.int n15), .val (.ref b16), .val (.int r179), .val (.long n180), .second, .unset, .unset, .unset, .unset, .unset, .unset, .unset]) rfl at_330 (pc' := 332) rfl ?_
                refine own_iload X178 hx hby rfl at_332 (pc' := 334) rfl ?_
                refine own_iconst X178 hx hby (v := (2 : Int32)) (by decide) at_334 (pc' := 335) rfl ?_
                refine own_icF X178 hx hby at_335 (by decide) (pc' := 338) rfl ?_
                refine own_lload X178 hx hby rfl at_338 (pc' := 340) rfl ?_
                refine own_ldc2L X178 hx hby hZ hown (hw _ (List.mem_of_getElem? (i := 44) rfl)) at_340 (pc' := 343) rfl ?_
                refine own_iload X178 hx hby rfl at_343 (pc' := 345) rfl ?_
                refine own_i2l X178 hx hby rfl at_345 (pc' := 346) rfl ?_
                refine own_lmul X178 hx hby rfl at_346 (pc' := 347) rfl ?_
                refine own_iconst X178 hx hby (v := (4 : Int32)) (by decide) at_347 (pc' := 348) rfl ?_
                refine own_iload X178 hx hby rfl at_348 (pc' := 350) rfl ?_
                refine own_isub X178 hx hby rfl at_350 (pc' := 351) rfl ?_
                refine own_i2l X178 hx hby rfl at_351 (pc' := 352) rfl ?_
                refine own_ldiv X178 hx hby (own_nzL (own_4q R_n7) (own_4qd R_n7).1) rfl at_352 (pc' := 353) rfl ?_
                refine own_ladd X178 hx hby rfl at_353 (pc' := 354) rfl ?_
                generalize q_n181 : (n180 + (((12 : Int64) * (n11.toInt64)) / (((4 : Int32) - n7).toInt64))) = n181
                refine own_lstore X178 hx hby (L' := #[.val (.int p0), .val (.int p1), .val (.int p2), .val (.long p3), .second, .val (.int (0 : Int32)), .val (.int (1 : Int32)), .val (.int (2 : Int32)), .val (.int (2 : Int32)), .val (.int n5), .val (.int n6), .val (.int n7), .val (.int n8), .val (.int n9), .val (.int n10), .val (.int n11), .val (.int n12), .val (.int n13), .val (.int n14), .val (.int n15), .val (.ref b16), .val (.int r179), .val (.long n181), .second, .unset, .unset, .unset, .unset, .unset, .unset, .unset]) rfl at_354 (pc' := 356) rfl ?_
                refine own_lconst X178 hx hby (v := (0 : Int64)) (by decide) at_356 (pc' := 357) rfl ?_
                refine own_lstore X178 hx hby (L' := #[.val (.int p0), .val (.int p1), .val (.int p2), .val (.long p3), .second, .val (.int (0 : Int32)), .val (.int (1 : Int32)), .val (.int (2 : Int32)), .val (.int (2 : Int32)), .val (.int n5), .val (.int n6), .val (.int n7), .val (.int n8), .val (.int n9), .val (.int n10), .val (.int n11), .val (.int n12), .val (.int n13), .val (.int n14), .val (.int n15), .val (.ref b16), .val (.int r179), .val (.long n181), .second, .val (.long (0 : Int64)), .second, .unset, .unset, .unset, .unset, .unset]) rfl at_357 (pc' := 359) rfl ?_
                refine own_iload X178 hx hby rfl at_359 (pc' := 361) rfl ?_
                refine own_iconst X178 hx hby (v := (1 : Int32)) (by decide) at_361 (pc' := 362) rfl ?_
                refine own_icF X178 hx hby at_362 (by decide) (pc' := 365) rfl ?_
                refine own_lload X178 hx hby rfl at_365 (pc' := 367) rfl ?_
                refine own_ldc2L X178 hx hby hZ hown (hw _ (List.mem_of_getElem? (i := 44) rfl)) at_367 (pc' := 370) rfl ?_
                refine own_iload X178 hx hby rfl at_370 (pc' := 372) rfl ?_
                refine own_i2l X178 hx hby rfl at_372 (pc' := 373) rfl ?_
                refine own_lmul X178 hx hby rfl at_373 (pc' := 374) rfl ?_
                refine own_iload X178 hx hby rfl at_374 (pc' := 376) rfl ?_
                refine own_i2l X178 hx hby rfl at_376 (pc' := 377) rfl ?_
                refine own_ldiv X178 hx hby (own_nzL (c_i2l n8) R_n8.1) rfl at_377 (pc' := 378) rfl ?_
                refine own_ladd X178 hx hby rfl at_378 (pc' := 379) rfl ?_
                generalize q_n182 : ((0 : Int64) + (((12 : Int64) * (n12.toInt64)) / (n8.toInt64))) = n182
                refine own_lstore X178 hx hby (L' := #[.val (.int p0), .val (.int p1), .val (.int p2), .val (.long p3), .second, .val (.int (0 : Int32)), .val (.int (1 : Int32)), .val (.int (2 : Int32)), .val (.int (2 : Int32)), .val (.int n5), .val (.int n6), .val (.int n7), .val (.int n8), .val (.int n9), .val (.int n10), .val (.int n11), .val (.int n12), .val (.int n13), .val (.int n14), .val (.int n15), .val (.ref b16), .val (.int r179), .val (.long n181), .second, .val (.long n182), .second, .unset, .unset, .unset, .unset, .unset]) rfl at_379 (pc' := 381) rfl ?_
                refine own_iload X178 hx hby rfl at_381 (pc' := 383) rfl ?_
                refine own_iconst X178 hx hby (v := (2 : Int32)) (by decide) at_383 (pc' := 384) rfl ?_
                refine own_icF X178 hx hby at_384 (by decide) (pc' := 387) rfl ?_
                refine own_lload X178 hx hby rfl at_387 (pc' := 389) rfl ?_
                refine own_ldc2L X178 hx hby hZ hown (hw _ (List.mem_of_getElem? (i := 44) rfl)) at_389 (pc' := 392) rfl ?_
                refine own_iload X178 hx hby rfl at_392 (pc' := 394) rfl ?_
                refine own_i2l X178 hx hby rfl at_394 (pc' := 395) rfl ?_
                refine own_lmul X178 hx hby rfl at_395 (pc' := 396) rfl ?_
                refine own_iload X178 hx hby rfl at_396 (pc' := 398) rfl ?_
                refine own_i2l X178 hx hby rfl at_398 (pc' := 399) rfl ?_
                refine own_ldiv X178 hx hby (own_nzL (c_i2l n9) R_n9.1) rfl at_399 (pc' := 400) rfl ?_
                refine own_ladd X178 hx hby rfl at_400 (pc' := 401) rfl ?_
                generalize q_n183 : (n182 + (((12 : Int64) * (n13.toInt64)) / (n9.toInt64))) = n183
                refine own_lstore X178 hx hby (L' := #[.val (.int p0), .val (.int p1), .val (.int p2), .val (.long p3), .second, .val (.int (0 : Int32)), .val (.int (1 : Int32)), .val (.int (2 : Int32)), .val (.int (2 : Int32)), .val (.int n5), .val (.int n6), .val (.int n7), .val (.int n8), .val (.int n9), .val (.int n10), .val (.int n11), .val (.int n12), .val (.int n13), .val (.int n14), .val (.int n15), .val (.ref b16), .val (.int r179), .val (.long n181), .second, .val (.long n183), .second, .unset, .unset, .unset, .unset, .unset]) rfl at_401 (pc' := 403) rfl ?_
                refine own_iload X178 hx hby rfl at_403 (pc' := 405) rfl ?_
                refine own_ifT X178 hx hby at_405 (by decide) (by decide) (pc' := 414) (by decide) ?_
                refine own_iload X178 hx hby rfl at_414 (pc' := 416) rfl ?_
                refine own_iconst X178 hx hby (v := (1 : Int32)) (by decide) at_416 (pc' := 417) rfl ?_
                refine own_icT X178 hx hby at_417 (by decide) (by decide) (pc' := 429) (by decide) ?_
                refine own_lload X178 hx hby rfl at_429 (pc' := 431) rfl ?_
                refine own_lstore X178 hx hby (L' := #[.val (.int p0), .val (.int p1), .val (.int p2), .val (.long p3), .second, .val (.int (0 : Int32)), .val (.int (1 : Int32)), .val (.int (2 : Int32)), .val (.int (2 : Int32)), .val (.int n5), .val (.int n6), .val (.int n7), .val (.int n8), .val (.int n9), .val (.int n10), .val (.int n11), .val (.int n12), .val (.int n13), .val (.int n14), .val (.int n15), .val (.ref b16), .val (.int r179), .val (.long n181), .second, .val (.long n183), .second, .val (.long n181), .second, .unset, .unset, .unset]) rfl at_431 (pc' := 433) rfl ?_
                refine own_iload X178 hx hby rfl at_433 (pc' := 435) rfl ?_
                refine own_ifT X178 hx hby at_435 (by decide) (by decide) (pc' := 444) (by decide) ?_
                refine own_iload X178 hx hby rfl at_444 (pc' := 446) rfl ?_
                refine own_iconst X178 hx hby (v := (1 : Int32)) (by decide) at_446 (pc' := 447) rfl ?_
                refine own_icT X178 hx hby at_447 (by decide) (by decide) (pc' := 459) (by decide) ?_
                refine own_lload X178 hx hby rfl at_459 (pc' := 461) rfl ?_
                refine own_lstore X178 hx hby (L' := #[.val (.int p0), .val (.int p1), .val (.int p2), .val (.long p3), .second, .val (.int (0 : Int32)), .val (.int (1 : Int32)), .val (.int (2 : Int32)), .val (.int (2 : Int32)), .val (.int n5), .val (.int n6), .val (.int n7), .val (.int n8), .val (.int n9), .val (.int n10), .val (.int n11), .val (.int n12), .val (.int n13), .val (.int n14), .val (.int n15), .val (.ref b16), .val (.int r179), .val (.long n181), .second, .val (.long n183), .second, .val (.long n181), .second, .val (.long n183), .second, .unset]) rfl at_461 (pc' := 463) rfl ?_
                have tw_n180 := own_tw (k := n10) (own_4q R_n6) (own_4qd R_n6) (own_k10 q_n10)
                have bq_n180 := own_dq (n := (4 - n6.toInt)) (k := n10.toInt) (own_4qd R_n6) (own_k10 q_n10)
                have et_n180 : n180.toInt = (0 + 12 * n10.toInt / (4 - n6.toInt)) := own_ls q_n180 own_e0 tw_n180 (own_w3 own_b0) bq_n180
                have tw_n181 := own_tw (k := n11) (own_4q R_n7) (own_4qd R_n7) (own_k10 q_n11)
                have bq_n181 := own_dq (n := (4 - n7.toInt)) (k := n11.toInt) (own_4qd R_n7) (own_k10 q_n11)
                have et_n181 : n181.toInt = ((0 + 12 * n10.toInt / (4 - n6.toInt)) + 12 * n11.toInt / (4 - n7.toInt)) := own_ls q_n181 et_n180 tw_n181 (own_b1' bq_n180) bq_n181
                have eu := et_n181
                have tw_n182 := own_tw (k := n12) (c_i2l n8) R_n8 (own_k10 q_n12)
                have bq_n182 := own_dq (n := n8.toInt) (k := n12.toInt) R_n8 (own_k10 q_n12)
                have et_n182 : n182.toInt = (0 + 12 * n12.toInt / n8.toInt) := own_ls q_n182 own_e0 tw_n182 (own_w3 own_b0) bq_n182
                have tw_n183 := own_tw (k := n13) (c_i2l n9) R_n9 (own_k10 q_n13)
                have bq_n183 := own_dq (n := n9.toInt) (k := n13.toInt) R_n9 (own_k10 q_n13)
                have et_n183 : n183.toInt = ((0 + 12 * n12.toInt / n8.toInt) + 12 * n13.toInt / n9.toInt) := own_ls q_n183 et_n182 tw_n183 (own_b1' bq_n182) bq_n183
                have ed := et_n183
                refine own_lload X178 hx hby rfl at_463 (pc' := 465) rfl ?_
                refine own_bipush X178 hx hby (v := (8 : Int32)) (by decide) at_465 (pc' := 467) rfl ?_
                refine own_iload X178 hx hby rfl at_467 (pc' := 469) rfl ?_
                refine own_isub X178 hx hby rfl at_469 (pc' := 470) rfl ?_
                refine own_i2l X178 hx hby rfl at_470 (pc' := 471) rfl ?_
                refine own_lmul X178 hx hby rfl at_471 (pc' := 472) rfl ?_
                refine own_lload X178 hx hby rfl at_472 (pc' := 474) rfl ?_
                refine own_iload X178 hx hby rfl at_474 (pc' := 476) rfl ?_
                refine own_i2l X178 hx hby rfl at_476 (pc' := 477) rfl ?_
                refine own_lmul X178 hx hby rfl at_477 (pc' := 478) rfl ?_
                generalize q_n184 : (n181 * (((8 : Int32) - n5).toInt64)) = n184
                generalize q_n185 : (n183 * (n5.toInt64)) = n185
                refine own_lcmp X178 hx hby rfl at_478 (pc' := 479) rfl ?_
                obtain ⟨w186, q_w186⟩ : ∃ z : Int32, (if n185 < n184 then (0 : Int32) else (1 : Int32)) = z := ⟨_, rfl⟩
                refine own_join (S' := T178.setTop (mkF m 487 #[.val (.int p0), .val (.int p1), .val (.int p2), .val (.long p3), .second, .val (.int (0 : Int32)), .val (.int (1 : Int32)), .val (.int (2 : Int32)), .val (.int (2 : Int32)), .val (.int n5), .val (.int n6), .val (.int n7), .val (.int n8), .val (.int n9), .val (.int n10), .val (.int n11), .val (.int n12), .val (.int n13), .val (.int n14), .val (.int n15), .val (.ref b16), .val (.int r179), .val (.long n181), .second, .val (.long n183), .second, .val (.long n181), .second, .val (.long n183), .second, .unset] [(.int w186)])) (fun F' k' => ?_) ?_
                · rw [← q_w186] at k'
                  by_cases hc187 : n185 < n184
                  · simp only [if_pos hc187] at k'
                    refine own_ifT X178 hx hby at_479 (own_lc_gt_p hc187) (by decide) (pc' := 486) (by decide) ?_
                    refine own_iconst X178 hx hby (v := (0 : Int32)) (by decide) at_486 (pc' := 487) rfl ?_
                    exact k'
                  · simp only [if_neg hc187] at k'
                    refine own_ifF X178 hx hby at_479 (own_lc_gt_n hc187) (pc' := 482) rfl ?_
                    refine own_iconst X178 hx hby (v := (1 : Int32)) (by decide) at_482 (pc' := 483) rfl ?_
                    refine own_goto X178 hx hby at_483 (by decide) (pc' := 487) (by decide) ?_
                    exact k'
                refine own_istore X178 hx hby (L' := #[.val (.int p0), .val (.int p1), .val (.int p2), .val (.long p3), .second, .val (.int (0 : Int32)), .val (.int (1 : Int32)), .val (.int (2 : Int32)), .val (.int (2 : Int32)), .val (.int n5), .val (.int n6), .val (.int n7), .val (.int n8), .val (.int n9), .val (.int n10), .val (.int n11), .val (.int n12), .val (.int n13), .val (.int n14), .val (.int n15), .val (.ref b16), .val (.int r179), .val (.long n181), .second, .val (.long n183), .second, .val (.long n181), .second, .val (.long n183), .second, .val (.int w186)]) rfl at_487 (pc' := 489) rfl ?_
                refine own_iload X178 hx hby rfl at_489 (pc' := 491) rfl ?_
                refine own_iload X178 hx hby rfl at_491 (pc' := 493) rfl ?_
                have hk188 : r179 = w186 := own_fin SD.2.2.2 R9 (own_t1 (own_b2 b_v131 b_v136)) (own_t1 (own_b2 b_v170 b_v175)) eu ed q_r179 q_n184 q_n185 q_w186
                refine own_icF X178 hx hby at_493 (own_ic_ne_p hk188) (pc' := 496) rfl ?_
                refine own_iconst X178 hx hby (v := (1 : Int32)) (by decide) at_496 (pc' := 497) rfl ?_
                refine own_goto X178 hx hby at_497 (by decide) (pc' := 501) (by decide) ?_
                exact own_retZ X178 hx hby Bd.notSynchronized Bd.returns (Or.inr rfl) at_501 (by decide) (by decide) eH178 ⟨rfl, N178⟩
    · obtain rfl : n2 = (0 : Int32) := by rw [← q_n2]; decide
      as_aux_lemma =>
        refine own_aload X17 hx hby rfl rfl at_153 (pc' := 155) rfl ?_
        refine own_iload X17 hx hby rfl at_155 (pc' := 157) rfl ?_
        refine own_iconst X17 hx hby (v := (1 : Int32)) (by decide) at_157 (pc' := 158) rfl ?_
        refine own_ldc2D X17 hx hby hZ hown (hw _ (List.mem_of_getElem? (i := 25) rfl)) at_158 (pc' := 161) rfl ?_
        refine own_iconst X17 hx hby (v := (3 : Int32)) (by decide) at_161 (pc' := 162) rfl ?_
        refine own_iload X17 hx hby rfl at_162 (pc' := 164) rfl ?_
        refine own_imul X17 hx hby rfl at_164 (pc' := 165) rfl ?_
        obtain ⟨v189, q_v189⟩ : ∃ z : UInt64, (FP.i2d ((3 : Int32) * n14)) = z := ⟨_, rfl⟩
        have D_v189 : Dy v189 (3 * n14.toInt) 0 := q_v189 ▸ (dy_i2d ((3 : Int32) * n14)).to (own_3k (own_k10 q_n14))
        refine own_i2d X17 hx hby q_v189 at_165 (pc' := 166) rfl ?_
        have LU166g := own_g own_half ⟨by decide, by decide⟩
        have LU166 := own_up own_half ⟨by decide, by decide⟩ D_v189 (own_k10 q_n14) own_d0 own_b0
        refine own_virtual X17 hx hby hZ (y := (⟨"com/example/bidfold/bidfold/Branching", "learn", "(IZDD)V"⟩ : MethodName)) (y' := (⟨"com/example/bidfold/bidfold/Branching", "learn", "(IZDD)V"⟩ : MethodName)) (C := "com/example/bidfold/bidfold/Branching") (rest := []) hown (hw _ (List.mem_of_getElem? (i := 26) rfl)) (hw _ (List.mem_of_getElem? (i := 27) rfl)) (notFace_of_selects (args := #[]) (mvT hZ (hw _ (List.mem_of_getElem? (i := 29) rfl)))) (hw _ (List.mem_of_getElem? (i := 29) rfl)) (hw _ (List.mem_of_getElem? (i := 28) rfl)) (hw _ (List.mem_of_getElem? (i := 30) rfl)) (hw _ (List.mem_of_getElem? (i := 2) rfl)) (by decide) (rm301 l Z a0 hw [] b16 (4602678819172646912 : UInt64) v189 b8_17 b10_17 (0 : UInt64) (0 : UInt64) (0 : Int32) (0 : Int32) h17 n0 Z0 F_b16_upFalls F_b16_upCounts V_b8_17 V_b10_17 LU166g.1 LU166g.2 LU166.1 LU166.2.1 LU166.2.2.1 g_b8_17 ne_b16_b8_17 (Ne.symm ne_b8_17_b10_17) g_b10_17 ne_b16_b10_17) eH17 (by rw [hml]; rfl) (a := b16) E_b16 (argsL := [(.int (0 : Int32)), (.int (1 : Int32)), (.double (4602678819172646912 : UInt64)), (.double v189)]) rfl (lenOf pd_2 rfl) rfl at_166 (pc' := 169) rfl (by decide) (W := 0) (Nat.le_of_eq rfl) (by decide) (by decide) (by decide) (fun T190 h190 Lc190 v190r X190 eH190 hQ190 => ?_)
        obtain ⟨rfl, Nq190, Kq190, gq190_0, gq190_1⟩ := hQ190
        have N190 := Fr.app N17 Nq190
        replace E_b16 := E_b16.keep Kq190
        replace F_b16_downFalls := F_b16_downFalls.keep Kq190 (ninS ne_b16_b8_17 (ninS ne_b16_b10_17 nin0))
        replace F_b16_downCounts := F_b16_downCounts.keep Kq190 (ninS ne_b16_b8_17 (ninS ne_b16_b10_17 nin0))
        replace F_b16_upFalls := F_b16_upFalls.keep Kq190 (ninS ne_b16_b8_17 (ninS ne_b16_b10_17 nin0))
        replace F_b16_upCounts := F_b16_upCounts.keep Kq190 (ninS ne_b16_b8_17 (ninS ne_b16_b10_17 nin0))
        replace E_b4_17 := E_b4_17.keep Kq190
        replace V_b4_17 := V_b4_17.keep Kq190 (ninS ne_b4_17_b8_17 (ninS ne_b4_17_b10_17 nin0))
        replace E_b6_17 := E_b6_17.keep Kq190
        replace V_b6_17 := V_b6_17.keep Kq190 (ninS ne_b6_17_b8_17 (ninS ne_b6_17_b10_17 nin0))
        replace E_b8_17 := E_b8_17.keep Kq190
        replace E_b10_17 := E_b10_17.keep Kq190
        obtain ⟨v191, q_v191⟩ : ∃ z : UInt64, (FP.dadd (0 : UInt64) (FP.ddiv v189 (FP.dsub (4607182418800017408 : UInt64) (4602678819172646912 : UInt64)))) = z := ⟨_, rfl⟩
        have V_b8_17 : Ary tr Z h190 b8_17 .double [(.double v191), (.double (0 : UInt64))] := by rw [← q_v191]; exact gq190_0
        rw [show ((0 : Int32) + (1 : Int32)) = (1 : Int32) from by decide] at gq190_1
        have V_b10_17 := gq190_1
        replace Z0 := Nat.le_trans Z0 Kq190.1
        have S_v191 : Dy v191 (0 + 12 * n14.toInt / (4 - 2)) 0 := by have q := LU166.2.2.2; rwa [q_v191] at q
        have b_v191 := own_dq (n := 4 - 2) (k := n14.toInt) (own_r4 ⟨by decide, by decide⟩) (own_k10 q_n14)
        refine own_aload X190 hx hby rfl rfl at_169 (pc' := 171) rfl ?_
        refine own_iload X190 hx hby rfl at_171 (pc' := 173) rfl ?_
        refine own_iconst X190 hx hby (v := (0 : Int32)) (by decide) at_173 (pc' := 174) rfl ?_
        refine own_ldc2D X190 hx hby hZ hown (hw _ (List.mem_of_getElem? (i := 25) rfl)) at_174 (pc' := 177) rfl ?_
        refine own_iconst X190 hx hby (v := (3 : Int32)) (by decide) at_177 (pc' := 178) rfl ?_
        refine own_iload X190 hx hby rfl at_178 (pc' := 180) rfl ?_
        refine own_imul X190 hx hby rfl at_180 (pc' := 181) rfl ?_
        obtain ⟨v192, q_v192⟩ : ∃ z : UInt64, (FP.i2d ((3 : Int32) * n15)) = z := ⟨_, rfl⟩
        have D_v192 : Dy v192 (3 * n15.toInt) 0 := q_v192 ▸ (dy_i2d ((3 : Int32) * n15)).to (own_3k (own_k10 q_n15))
        refine own_i2d X190 hx hby q_v192 at_181 (pc' := 182) rfl ?_
        have LU182g := own_g own_half ⟨by decide, by decide⟩
        have LU182 := own_dn own_half ⟨by decide, by decide⟩ D_v192 (own_k10 q_n15) own_d0 own_b0
        refine own_virtual X190 hx hby hZ (y := (⟨"com/example/bidfold/bidfold/Branching", "learn", "(IZDD)V"⟩ : MethodName)) (y' := (⟨"com/example/bidfold/bidfold/Branching", "learn", "(IZDD)V"⟩ : MethodName)) (C := "com/example/bidfold/bidfold/Branching") (rest := []) hown (hw _ (List.mem_of_getElem? (i := 26) rfl)) (hw _ (List.mem_of_getElem? (i := 27) rfl)) (notFace_of_selects (args := #[]) (mvT hZ (hw _ (List.mem_of_getElem? (i := 29) rfl)))) (hw _ (List.mem_of_getElem? (i := 29) rfl)) (hw _ (List.mem_of_getElem? (i := 28) rfl)) (hw _ (List.mem_of_getElem? (i := 30) rfl)) (hw _ (List.mem_of_getElem? (i := 2) rfl)) (by decide) (rm300 l Z a0 hw [] b16 (4602678819172646912 : UInt64) v192 b4_17 b6_17 (0 : UInt64) (0 : UInt64) (0 : Int32) (0 : Int32) h190 n0 Z0 F_b16_downFalls F_b16_downCounts V_b4_17 V_b6_17 LU182g.1 LU182g.2 LU182.1 LU182.2.1 g_b4_17 ne_b16_b4_17 (Ne.symm ne_b4_17_b6_17) g_b6_17 ne_b16_b6_17) eH190 (by rw [hml]; rfl) (a := b16) E_b16 (argsL := [(.int (0 : Int32)), (.int (0 : Int32)), (.double (4602678819172646912 : UInt64)), (.double v192)]) rfl (lenOf pd_2 rfl) rfl at_182 (pc' := 185) rfl (by decide) (W := 0) (Nat.le_of_eq rfl) (by decide) (by decide) (by decide) (fun T193 h193 Lc193 v193r X193 eH193 hQ193 => ?_)
        obtain ⟨rfl, Nq193, Kq193, gq193_0, gq193_1⟩ := hQ193
        have N193 := Fr.app N190 Nq193
        replace E_b16 := E_b16.keep Kq193
        replace F_b16_downFalls := F_b16_downFalls.keep Kq193 (ninS ne_b16_b4_17 (ninS ne_b16_b6_17 nin0))
        replace F_b16_downCounts := F_b16_downCounts.keep Kq193 (ninS ne_b16_b4_17 (ninS ne_b16_b6_17 nin0))
        replace F_b16_upFalls := F_b16_upFalls.keep Kq193 (ninS ne_b16_b4_17 (ninS ne_b16_b6_17 nin0))
        replace F_b16_upCounts := F_b16_upCounts.keep Kq193 (ninS ne_b16_b4_17 (ninS ne_b16_b6_17 nin0))
        replace E_b4_17 := E_b4_17.keep Kq193
        replace E_b6_17 := E_b6_17.keep Kq193
        replace E_b8_17 := E_b8_17.keep Kq193
        replace V_b8_17 := V_b8_17.keep Kq193 (ninS (Ne.symm ne_b4_17_b8_17) (ninS (Ne.symm ne_b6_17_b8_17) nin0))
        replace E_b10_17 := E_b10_17.keep Kq193
        replace V_b10_17 := V_b10_17.keep Kq193 (ninS (Ne.symm ne_b4_17_b10_17) (ninS (Ne.symm ne_b6_17_b10_17) nin0))
        obtain ⟨v194, q_v194⟩ : ∃ z : UInt64, (FP.dadd (0 : UInt64) (FP.ddiv v192 (4602678819172646912 : UInt64))) = z := ⟨_, rfl⟩
        have V_b4_17 : Ary tr Z h193 b4_17 .double [(.double v194), (.double (0 : UInt64))] := by rw [← q_v194]; exact gq193_0
        rw [show ((0 : Int32) + (1 : Int32)) = (1 : Int32) from by decide] at gq193_1
        have V_b6_17 := gq193_1
        replace Z0 := Nat.le_trans Z0 Kq193.1
        have S_v194 : Dy v194 (0 + 12 * n15.toInt / 2) 0 := by have q := LU182.2.2; rwa [q_v194] at q
        have b_v194 := own_dq (n := 2) (k := n15.toInt) ⟨by decide, by decide⟩ (own_k10 q_n15)
        rcases own_n3 q_n3 with rfl | rfl | rfl
        · refine own_iload X193 hx hby rfl at_185 (pc' := 187) rfl ?_
          refine own_iconst X193 hx hby (v := (1 : Int32)) (by decide) at_187 (pc' := 188) rfl ?_
          refine own_icT X193 hx hby at_188 (by decide) (by decide) (pc' := 211) (by decide) ?_
          refine own_iload X193 hx hby rfl at_211 (pc' := 213) rfl ?_
          refine own_iconst X193 hx hby (v := (2 : Int32)) (by decide) at_213 (pc' := 214) rfl ?_
          refine own_icT X193 hx hby at_214 (by decide) (by decide) (pc' := 237) (by decide) ?_
          rcases own_n3 q_n4 with rfl | rfl | rfl
          · refine own_iload X193 hx hby rfl at_237 (pc' := 239) rfl ?_
            refine own_iconst X193 hx hby (v := (1 : Int32)) (by decide) at_239 (pc' := 240) rfl ?_
            refine own_icT X193 hx hby at_240 (by decide) (by decide) (pc' := 263) (by decide) ?_
            refine own_iload X193 hx hby rfl at_263 (pc' := 265) rfl ?_
            refine own_iconst X193 hx hby (v := (2 : Int32)) (by decide) at_265 (pc' := 266) rfl ?_
            refine own_icT X193 hx hby at_266 (by decide) (by decide) (pc' := 289) (by decide) ?_
            refine own_aload X193 hx hby rfl rfl at_289 (pc' := 291) rfl ?_
            refine own_iload X193 hx hby rfl at_291 (pc' := 293) rfl ?_
            refine own_iload X193 hx hby rfl at_293 (pc' := 295) rfl ?_
            obtain ⟨v195, q_v195⟩ : ∃ z : UInt64, (FP.i2d n5) = z := ⟨_, rfl⟩
            have D_v195 : Dy v195 n5.toInt 0 := q_v195 ▸ dy_i2d n5
            refine own_i2d X193 hx hby q_v195 at_295 (pc' := 296) rfl ?_
            refine own_ldc2D X193 hx hby hZ hown (hw _ (List.mem_of_getElem? (i := 33) rfl)) at_296 (pc' := 299) rfl ?_
            obtain ⟨v196, q_v196⟩ : ∃ z : UInt64, (FP.ddiv v195 (4620693217682128896 : UInt64)) = z := ⟨_, rfl⟩
            have R9 := own_r9 q_n5
            have D_v196 : Dy v196 n5.toInt 3 := own_div8 q_v196 D_v195 R9
            have nn_v196 := D_v196.nn
            refine own_ddiv X193 hx hby (by rw [q_v196]; exact nn_v196) q_v196 at_299 (pc' := 300) rfl ?_
            have MA := own_f0 (e := (0 : UInt64))
            have MB := own_f0 (e := (0 : UInt64))
            have SD := own_sides MA MB own_tz own_tz D_v196 R9
            refine own_virtual X193 hx hby hZ (y := (⟨"com/example/bidfold/bidfold/Branching", "leansIn", "(ID)Z"⟩ : MethodName)) (y' := (⟨"com/example/bidfold/bidfold/Branching", "leansIn", "(ID)Z"⟩ : MethodName)) (C := "com/example/bidfold/bidfold/Branching") (rest := []) hown (hw _ (List.mem_of_getElem? (i := 34) rfl)) (hw _ (List.mem_of_getElem? (i := 35) rfl)) (notFace_of_selects (args := #[]) (mvT hZ (hw _ (List.mem_of_getElem? (i := 37) rfl)))) (hw _ (List.mem_of_getElem? (i := 37) rfl)) (hw _ (List.mem_of_getElem? (i := 36) rfl)) (hw _ (List.mem_of_getElem? (i := 38) rfl)) (hw _ (List.mem_of_getElem? (i := 2) rfl)) (by decide) (rm41 l Z a0 hw [] b16 v196 b8_17 b10_17 v191 (0 : UInt64) (1 : Int32) (0 : Int32) b4_17 b6_17 v194 (0 : UInt64) (1 : Int32) (0 : Int32) h193 n0 Z0 F_b16_upFalls F_b16_upCounts V_b8_17 V_b10_17 F_b16_downFalls F_b16_downCounts V_b4_17 V_b6_17 (fun h => absurd h (by decide)) SD.1 SD.2.1 (fun h => absurd h (by decide)) SD.2.2.1) eH193 (by rw [hml]; rfl) (a := b16) E_b16 (argsL := [(.int (1 : Int32)), (.double v196)]) rfl (lenOf pd_3 rfl) rfl at_300 (pc' := 303) rfl (by decide) (W := 0) (Nat.le_of_eq rfl) (by decide) (by decide) (by decide) (fun T197 h197 Lc197 v197r X197 eH197 hQ197 => ?_)
            obtain ⟨rfl, Nq197, rfl⟩ := hQ197
            have N197 := Fr.app N193 Nq197
            dsimp only [Option.toList, List.cons_append, List.nil_append]
            generalize q_r198 : (if dle (FP.dmul (if 0 < (0 : Int32) then (FP.ddiv (0 : UInt64) (FP.i2d (0 : Int32))) else (4607182418800017408 : UInt64)) (FP.dsub (4607182418800017408 : UInt64) v196)) (FP.dmul (if 0 < (0 : Int32) then (FP.ddiv (0 : UInt64) (FP.i2d (0 : Int32))) else (4607182418800017408 : UInt64)) v196) then (1 : Int32) else (0 : Int32)) = r198
            refine own_istore X197 hx hby (L' := #[.val (.int p0), .val (.int p1), .val (.int p2), .val (.long p3), .second, .val (.int (1 : Int32)), .val (.int (0 : Int32)), .val (.int (0 : Int32)), .val (.int (0 : Int32)), .val (.int n5), .val (.int n6), .val (.int n7), .val (.int n8), .val (.int n9), .val (.int n10), .val (.int n11), .val (.int n12), .val (.int n13), .val (.int n14), .val (.int n15), .val (.ref b16), .val (.int r198), .unset, .unset, .unset, .unset, .unset, .unset, .unset, .unset, .unset]) rfl at_303 (pc' := 305) rfl ?_
            refine own_lconst X197 hx hby (v := (0 : Int64)) (by decide) at_305 (pc' := 306) rfl ?_
            refine own_lstore X197 hx hby (L' := #[.val (.int p0), .val (.int p1), .val (.int p2), .val (.long p3), .second, .val (.int (1 : Int32)), .val (.int (0 : Int32)), .val (.int (0 : Int32)), .val (.int (0 : Int32)), .val (.int n5), .val (.int n6), .val (.int n7), .val (.int n8), .val (.int n9), .val (.int n10), .val (.int n11), .val (.int n12), .val (.int n13), .val (.int n14), .val (.int n15), .val (.ref b16), .val (.int r198), .val (.long (0 : Int64)), .second, .unset, .unset, .unset, .unset, .unset, .unset, .unset]) rfl at_306 (pc' := 308) rfl ?_
            refine own_iload X197 hx hby rfl at_308 (pc' := 310) rfl ?_
            refine own_iconst X197 hx hby (v := (1 : Int32)) (by decide) at_310 (pc' := 311) rfl ?_
            refine own_icT X197 hx hby at_311 (by decide) (by decide) (pc' := 332) (by decide) ?_
            refine own_iload X197 hx hby rfl at_332 (pc' := 334) rfl ?_
            refine own_iconst X197 hx hby (v := (2 : Int32)) (by decide) at_334 (pc' := 335) rfl ?_
            refine own_icT X197 hx hby at_335 (by decide) (by decide) (pc' := 356) (by decide) ?_
            refine own_lconst X197 hx hby (v := (0 : Int64)) (by decide) at_356 (pc' := 357) rfl ?_
            refine own_lstore X197 hx hby (L' := #[.val (.int p0), .val (.int p1), .val (.int p2), .val (.long p3), .second, .val (.int (1 : Int32)), .val (.int (0 : Int32)), .val (.int (0 : Int32)), .val (.int (0 : Int32)), .val (.int n5), .val (.int n6), .val (.int n7), .val (.int n8), .val (.int n9), .val (.int n10), .val (.int n11), .val (.int n12), .val (.int n13), .val (.int n14), .val (.int n15), .val (.ref b16), .val (.int r198), .val (.long (0 : Int64)), .second, .val (.long (0 : Int64)), .second, .unset, .unset, .unset, .unset, .unset]) rfl at_357 (pc' := 359) rfl ?_
            refine own_iload X197 hx hby rfl at_359 (pc' := 361) rfl ?_
            refine own_iconst X197 hx hby (v := (1 : Int32)) (by decide) at_361 (pc' := 362) rfl ?_
            refine own_icT X197 hx hby at_362 (by decide) (by decide) (pc' := 381) (by decide) ?_
            refine own_iload X197 hx hby rfl at_381 (pc' := 383) rfl ?_
            refine own_iconst X197 hx hby (v := (2 : Int32)) (by decide) at_383 (pc' := 384) rfl ?_
            refine own_icT X197 hx hby at_384 (by decide) (by decide) (pc' := 403) (by decide) ?_
            refine own_iload X197 hx hby rfl at_403 (pc' := 405) rfl ?_
            refine own_ifF X197 hx hby at_405 (by decide) (pc' := 408) rfl ?_
            as_aux_lemma =>
              refine own_ldc2L X197 hx hby hZ hown (hw _ (List.mem_of_getElem? (i := 42) rfl)) at_408 (pc' := 411) rfl ?_
              refine own_goto X197 hx hby at_411 (by decide) (pc' := 431) (by decide) ?_
              refine own_lstore X197 hx hby (L' := #[.val (.int p0), .val (.int p1), .val (.int p2), .val (.long p3), .second, .val (.int (1 : Int32)), .val (.int (0 : Int32)), .val (.int (0 : Int32)), .val (.int (0 : Int32)), .val (.int n5), .val (.int n6), .val (.int n7), .val (.int n8), .val (.int n9), .val (.int n10), .val (.int n11), .val (.int n12), .val (.int n13), .val (.int n14), .val (.int n15), .val (.ref b16), .val (.int r198), .val (.long (0 : Int64)), .second, .val (.long (0 : Int64)), .second, .val (.long (2 : Int64)), .second, .unset, .unset, .unset]) rfl at_431 (pc' := 433) rfl ?_
              refine own_iload X197 hx hby rfl at_433 (pc' := 435) rfl ?_
              refine own_ifF X197 hx hby at_435 (by decide) (pc' := 438) rfl ?_
              refine own_ldc2L X197 hx hby hZ hown (hw _ (List.mem_of_getElem? (i := 42) rfl)) at_438 (pc' := 441) rfl ?_
              refine own_goto X197 hx hby at_441 (by decide) (pc' := 461) (by decide) ?_
              refine own_lstore X197 hx hby (L' := #[.val (.int p0), .val (.int p1), .val (.int p2), .val (.long p3), .second, .val (.int (1 : Int32)), .val (.int (0 : Int32)), .val (.int (0 : Int32)), .val (.int (0 : Int32)), .val (.int n5), .val (.int n6), .val (.int n7), .val (.int n8), .val (.int n9), .val (.int n10), .val (.int n11), .val (.int n12), .val (.int n13), .val (.int n14), .val (.int n15), .val (.ref b16), .val (.int r198), .val (.long (0 : Int64)), .second, .val (.long (0 : Int64)), .second, .val (.long (2 : Int64)), .second, .val (.long (2 : Int64)), .second, .unset]) rfl at_461 (pc' := 463) rfl ?_
              have eu := own_e2
              have ed := own_e2
              refine own_lload X197 hx hby rfl at_463 (pc' := 465) rfl ?_
              refine own_bipush X197 hx hby (v := (8 : Int32)) (by decide) at_465 (pc' := 467) rfl ?_
              refine own_iload X197 hx hby rfl at_467 (pc' := 469) rfl ?_
              refine own_isub X197 hx hby rfl at_469 (pc' := 470) rfl ?_
              refine own_i2l X197 hx hby rfl at_470 (pc' := 471) rfl ?_
              refine own_lmul X197 hx hby rfl at_471 (pc' := 472) rfl ?_
              refine own_lload X197 hx hby rfl at_472 (pc' := 474) rfl ?_
              refine own_iload X197 hx hby rfl at_474 (pc' := 476) rfl ?_
              refine own_i2l X197 hx hby rfl at_476 (pc' := 477) rfl ?_
              refine own_lmul X197 hx hby rfl at_477 (pc' := 478) rfl ?_
              generalize q_n199 : ((2 : Int64) * (((8 : Int32) - n5).toInt64)) = n199
              generalize q_n200 : ((2 : Int64) * (n5.toInt64)) = n200
              refine own_lcmp X197 hx hby rfl at_478 (pc' := 479) rfl ?_
              obtain ⟨w201, q_w201⟩ : ∃ z : Int32, (if n200 < n199 then (0 : Int32) else (1 : Int32)) = z := ⟨_, rfl⟩
              refine own_join (S' := T197.setTop (mkF m 487 #[.val (.int p0), .val (.int p1), .val (.int p2), .val (.long p3), .second, .val (.int (1 : Int32)), .val (.int (0 : Int32)), .val (.int (0 : Int32)), .val (.int (0 : Int32)), .val (.int n5), .val (.int n6), .val (.int n7), .val (.int n8), .val (.int n9), .val (.int n10), .val (.int n11), .val (.int n12), .val (.int n13), .val (.int n14), .val (.int n15), .val (.ref b16), .val (.int r198), .val (.long (0 : Int64)), .second, .val (.long (0 : Int64)), .second, .val (.long (2 : Int64)), .second, .val (.long (2 : Int64)), .second, .unset] [(.int w201)])) (fun F' k' => ?_) ?_
              · rw [← q_w201] at k'
                by_cases hc202 : n200 < n199
                · simp only [if_pos hc202] at k'
                  refine own_ifT X197 hx hby at_479 (own_lc_gt_p hc202) (by decide) (pc' := 486) (by decide) ?_
                  refine own_iconst X197 hx hby (v := (0 : Int32)) (by decide) at_486 (pc' := 487) rfl ?_
                  exact k'
                · simp only [if_neg hc202] at k'
                  refine own_ifF X197 hx hby at_479 (own_lc_gt_n hc202) (pc' := 482) rfl ?_
                  refine own_iconst X197 hx hby (v := (1 : Int32)) (by decide) at_482 (pc' := 483) rfl ?_
                  refine own_goto X197 hx hby at_483 (by decide) (pc' := 487) (by decide) ?_
                  exact k'
              refine own_istore X197 hx hby (L' := #[.val (.int p0), .val (.int p1), .val (.int p2), .val (.long p3), .second, .val (.int (1 : Int32)), .val (.int (0 : Int32)), .val (.int (0 : Int32)), .val (.int (0 : Int32)), .val (.int n5), .val (.int n6), .val (.int n7), .val (.int n8), .val (.int n9), .val (.int n10), .val (.int n11), .val (.int n12), .val (.int n13), .val (.int n14), .val (.int n15), .val (.ref b16), .val (.int r198), .val (.long (0 : Int64)), .second, .val (.long (0 : Int64)), .second, .val (.long (2 : Int64)), .second, .val (.long (2 : Int64)), .second, .val (.int w201)]) rfl at_487 (pc' := 489) rfl ?_
              refine own_iload X197 hx hby rfl at_489 (pc' := 491) rfl ?_
              refine own_iload X197 hx hby rfl at_491 (pc' := 493) rfl ?_
              have hk203 : r198 = w201 := own_fin SD.2.2.2 R9 own_tz own_tz eu ed q_r198 q_n199 q_n200 q_w201
              refine own_icF X197 hx hby at_493 (own_ic_ne_p hk203) (pc' := 496) rfl ?_
              refine own_iconst X197 hx hby (v := (1 : Int32)) (by decide) at_496 (pc' := 497) rfl ?_
              refine own_goto X197 hx hby at_497 (by decide) (pc' := 501) (by decide) ?_
              exact own_retZ X197 hx hby Bd.notSynchronized Bd.returns (Or.inr rfl) at_501 (by decide) (by decide) eH197 ⟨rfl, N197⟩
          · as_aux_lemma =>
              refine own_iload X193 hx hby rfl at_237 (pc' := 239) rfl ?_
              refine own_iconst X193 hx hby (v := (1 : Int32)) (by decide) at_239 (pc' := 240) rfl ?_
              refine own_icF X193 hx hby at_240 (by decide) (pc' := 243) rfl ?_
              refine own_aload X193 hx hby rfl rfl at_243 (pc' := 245) rfl ?_
              refine own_iload X193 hx hby rfl at_245 (pc' := 247) rfl ?_
              refine own_iconst X193 hx hby (v := (0 : Int32)) (by decide) at_247 (pc' := 248) rfl ?_
              refine own_iload X193 hx hby rfl at_248 (pc' := 250) rfl ?_
              obtain ⟨v204, q_v204⟩ : ∃ z : UInt64, (FP.i2d n8) = z := ⟨_, rfl⟩
              have D_v204 : Dy v204 n8.toInt 0 := q_v204 ▸ dy_i2d n8
              refine own_i2d X193 hx hby q_v204 at_250 (pc' := 251) rfl ?_
              refine own_ldc2D X193 hx hby hZ hown (hw _ (List.mem_of_getElem? (i := 43) rfl)) at_251 (pc' := 254) rfl ?_
              obtain ⟨v205, q_v205⟩ : ∃ z : UInt64, (FP.ddiv v204 (4616189618054758400 : UInt64)) = z := ⟨_, rfl⟩
              have R_n8 := own_q3r q_n8
              have D_v205 : Dy v205 n8.toInt 2 := own_div4 q_v205 D_v204 R_n8
              have nn_v205 := D_v205.nn
              refine own_ddiv X193 hx hby (by rw [q_v205]; exact nn_v205) q_v205 at_254 (pc' := 255) rfl ?_
              refine own_iconst X193 hx hby (v := (3 : Int32)) (by decide) at_255 (pc' := 256) rfl ?_
              refine own_iload X193 hx hby rfl at_256 (pc' := 258) rfl ?_
              refine own_imul X193 hx hby rfl at_258 (pc' := 259) rfl ?_
              obtain ⟨v206, q_v206⟩ : ∃ z : UInt64, (FP.i2d ((3 : Int32) * n12)) = z := ⟨_, rfl⟩
              have D_v206 : Dy v206 (3 * n12.toInt) 0 := q_v206 ▸ (dy_i2d ((3 : Int32) * n12)).to (own_3k (own_k10 q_n12))
              refine own_i2d X193 hx hby q_v206 at_259 (pc' := 260) rfl ?_
              have LU260g := own_g D_v205 R_n8
              have LU260 := own_dn D_v205 R_n8 D_v206 (own_k10 q_n12) own_d0 own_b0
              refine own_virtual X193 hx hby hZ (y := (⟨"com/example/bidfold/bidfold/Branching", "learn", "(IZDD)V"⟩ : MethodName)) (y' := (⟨"com/example/bidfold/bidfold/Branching", "learn", "(IZDD)V"⟩ : MethodName)) (C := "com/example/bidfold/bidfold/Branching") (rest := []) hown (hw _ (List.mem_of_getElem? (i := 26) rfl)) (hw _ (List.mem_of_getElem? (i := 27) rfl)) (notFace_of_selects (args := #[]) (mvT hZ (hw _ (List.mem_of_getElem? (i := 29) rfl)))) (hw _ (List.mem_of_getElem? (i := 29) rfl)) (hw _ (List.mem_of_getElem? (i := 28) rfl)) (hw _ (List.mem_of_getElem? (i := 30) rfl)) (hw _ (List.mem_of_getElem? (i := 2) rfl)) (by decide) (rm310 l Z a0 hw [] b16 v205 v206 b4_17 b6_17 v194 (0 : UInt64) (1 : Int32) (0 : Int32) h193 n0 Z0 F_b16_downFalls F_b16_downCounts V_b4_17 V_b6_17 LU260g.1 LU260g.2 LU260.1 LU260.2.1 g_b4_17 ne_b16_b4_17 (Ne.symm ne_b4_17_b6_17) g_b6_17 ne_b16_b6_17) eH193 (by rw [hml]; rfl) (a := b16) E_b16 (argsL := [(.int (1 : Int32)), (.int (0 : Int32)), (.double v205), (.double v206)]) rfl (lenOf pd_2 rfl) rfl at_260 (pc' := 263) rfl (by decide) (W := 0) (Nat.le_of_eq rfl) (by decide) (by decide) (by decide) (fun T207 h207 Lc207 v207r X207 eH207 hQ207 => ?_)
              obtain ⟨rfl, Nq207, Kq207, gq207_0, gq207_1⟩ := hQ207
              have N207 := Fr.app N193 Nq207
              replace E_b16 := E_b16.keep Kq207
              replace F_b16_downFalls := F_b16_downFalls.keep Kq207 (ninS ne_b16_b4_17 (ninS ne_b16_b6_17 nin0))
              replace F_b16_downCounts := F_b16_downCounts.keep Kq207 (ninS ne_b16_b4_17 (ninS ne_b16_b6_17 nin0))
              replace F_b16_upFalls := F_b16_upFalls.keep Kq207 (ninS ne_b16_b4_17 (ninS ne_b16_b6_17 nin0))
              replace F_b16_upCounts := F_b16_upCounts.keep Kq207 (ninS ne_b16_b4_17 (ninS ne_b16_b6_17 nin0))
              replace E_b4_17 := E_b4_17.keep Kq207
              replace E_b6_17 := E_b6_17.keep Kq207
              replace E_b8_17 := E_b8_17.keep Kq207
              replace V_b8_17 := V_b8_17.keep Kq207 (ninS (Ne.symm ne_b4_17_b8_17) (ninS (Ne.symm ne_b6_17_b8_17) nin0))
              replace E_b10_17 := E_b10_17.keep Kq207
              replace V_b10_17 := V_b10_17.keep Kq207 (ninS (Ne.symm ne_b4_17_b10_17) (ninS (Ne.symm ne_b6_17_b10_17) nin0))
              obtain ⟨v208, q_v208⟩ : ∃ z : UInt64, (FP.dadd (0 : UInt64) (FP.ddiv v206 v205)) = z := ⟨_, rfl⟩
              have V_b4_17 : Ary tr Z h207 b4_17 .double [(.double v194), (.double v208)] := by rw [← q_v208]; exact gq207_0
              rw [show ((0 : Int32) + (1 : Int32)) = (1 : Int32) from by decide] at gq207_1
              have V_b6_17 := gq207_1
              replace Z0 := Nat.le_trans Z0 Kq207.1
              have S_v208 : Dy v208 (0 + 12 * n12.toInt / n8.toInt) 0 := by have q := LU260.2.2; rwa [q_v208] at q
              have b_v208 := own_dq (n := n8.toInt) (k := n12.toInt) R_n8 (own_k10 q_n12)
              refine own_iload X207 hx hby rfl at_263 (pc' := 265) rfl ?_
              refine own_iconst X207 hx hby (v := (2 : Int32)) (by decide) at_265 (pc' := 266) rfl ?_
              refine own_icT X207 hx hby at_266 (by decide) (by decide) (pc' := 289) (by decide) ?_
              refine own_aload X207 hx hby rfl rfl at_289 (pc' := 291) rfl ?_
              refine own_iload X207 hx hby rfl at_291 (pc' := 293) rfl ?_
              refine own_iload X207 hx hby rfl at_293 (pc' := 295) rfl ?_
              obtain ⟨v209, q_v209⟩ : ∃ z : UInt64, (FP.i2d n5) = z := ⟨_, rfl⟩
              have D_v209 : Dy v209 n5.toInt 0 := q_v209 ▸ dy_i2d n5
              refine own_i2d X207 hx hby q_v209 at_295 (pc' := 296) rfl ?_
              refine own_ldc2D X207 hx hby hZ hown (hw _ (List.mem_of_getElem? (i := 33) rfl)) at_296 (pc' := 299) rfl ?_
              obtain ⟨v210, q_v210⟩ : ∃ z : UInt64, (FP.ddiv v209 (4620693217682128896 : UInt64)) = z := ⟨_, rfl⟩
              have R9 := own_r9 q_n5
              have D_v210 : Dy v210 n5.toInt 3 := own_div8 q_v210 D_v209 R9
              have nn_v210 := D_v210.nn
              refine own_ddiv X207 hx hby (by rw [q_v210]; exact nn_v210) q_v210 at_299 (pc' := 300) rfl ?_
              have MA := own_f0 (e := (0 : UInt64))
              have MB0 := own_f1 S_v208 (own_b1' b_v208)
              have MB := own_ifp (p := 0 < (1 : Int32)) (by decide) (y := (4607182418800017408 : UInt64)) MB0
              have SD := own_sides MA MB own_tz (own_t2 (own_b1' b_v208)) D_v210 R9
              refine own_virtual X207 hx hby hZ (y := (⟨"com/example/bidfold/bidfold/Branching", "leansIn", "(ID)Z"⟩ : MethodName)) (y' := (⟨"com/example/bidfold/bidfold/Branching", "leansIn", "(ID)Z"⟩ : MethodName)) (C := "com/example/bidfold/bidfold/Branching") (rest := []) hown (hw _ (List.mem_of_getElem? (i := 34) rfl)) (hw _ (List.mem_of_getElem? (i := 35) rfl)) (notFace_of_selects (args := #[]) (mvT hZ (hw _ (List.mem_of_getElem? (i := 37) rfl)))) (hw _ (List.mem_of_getElem? (i := 37) rfl)) (hw _ (List.mem_of_getElem? (i := 36) rfl)) (hw _ (List.mem_of_getElem? (i := 38) rfl)) (hw _ (List.mem_of_getElem? (i := 2) rfl)) (by decide) (rm41 l Z a0 hw [] b16 v210 b8_17 b10_17 v191 (0 : UInt64) (1 : Int32) (0 : Int32) b4_17 b6_17 v194 v208 (1 : Int32) (1 : Int32) h207 n0 Z0 F_b16_upFalls F_b16_upCounts V_b8_17 V_b10_17 F_b16_downFalls F_b16_downCounts V_b4_17 V_b6_17 (fun h => absurd h (by decide)) SD.1 SD.2.1 (fun _ => MB0.nn) SD.2.2.1) eH207 (by rw [hml]; rfl) (a := b16) E_b16 (argsL := [(.int (1 : Int32)), (.double v210)]) rfl (lenOf pd_3 rfl) rfl at_300 (pc' := 303) rfl (by decide) (W := 0) (Nat.le_of_eq rfl) (by decide) (by decide) (by decide) (fun T211 h211 Lc211 v211r X211 eH211 hQ211 => ?_)
              obtain ⟨rfl, Nq211, rfl⟩ := hQ211
              have N211 := Fr.app N207 Nq211
              dsimp only [Option.toList, List.cons_append, List.nil_append]
              generalize q_r212 : (if dle (FP.dmul (if 0 < (0 : Int32) then (FP.ddiv (0 : UInt64) (FP.i2d (0 : Int32))) else (4607182418800017408 : UInt64)) (FP.dsub (4607182418800017408 : UInt64) v210)) (FP.dmul (if 0 < (1 : Int32) then (FP.ddiv v208 (FP.i2d (1 : Int32))) else (4607182418800017408 : UInt64)) v210) then (1 : Int32) else (0 : Int32)) = r212
              refine own_istore X211 hx hby (L' := #[.val (.int p0), .val (.int p1), .val (.int p2), .val (.long p3), .second, .val (.int (1 : Int32)), .val (.int (0 : Int32)), .val (.int (0 : Int32)), .val (.int (1 : Int32)), .val (.int n5), .val (.int n6), .val (.int n7), .val (.int n8), .val (.int n9), .val (.int n10), .val (.int n11), .val (.int n12), .val (.int n13), .val (.int n14), .val (.int n15), .val (.ref b16), .val (.int r212), .unset, .unset, .unset, .unset, .unset, .unset, .unset, .unset, .unset]) rfl at_303 (pc' := 305) rfl ?_
              refine own_lconst X211 hx hby (v := (0 : Int64)) (by decide) at_305 (pc' := 306) rfl ?_
              refine own_lstore X211 hx hby (L' := #[.val (.int p0), .val (.int p1), .val (.int p2), .val (.long p3), .second, .val (.int (1 : Int32)), .val (.int (0 : Int32)), .val (.int (0 : Int32)), .val (.int (1 : Int32)), .val (.int n5), .val (.int n6), .val (.int n7), .val (.int n8), .val (.int n9), .val (.int n10), .val (.int n11), .val (.int n12), .val (.int n13), .val (.int n14), .val (.int n15), .val (.ref b16), .val (.int r212), .val (.long (0 : Int64)), .second, .unset, .unset, .unset, .unset, .unset, .unset, .unset]) rfl at_306 (pc' := 308) rfl ?_
              refine own_iload X211 hx hby rfl at_308 (pc' := 310) rfl ?_
              refine own_iconst X211 hx hby (v := (1 : Int32)) (by decide) at_310 (pc' := 311) rfl ?_
              refine own_icT X211 hx hby at_311 (by decide) (by decide) (pc' := 332) (by decide) ?_
              refine own_iload X211 hx hby rfl at_332 (pc' := 334) rfl ?_
              refine own_iconst X211 hx hby (v := (2 : Int32)) (by decide) at_334 (pc' := 335) rfl ?_
              refine own_icT X211 hx hby at_335 (by decide) (by decide) (pc' := 356) (by decide) ?_
              refine own_lconst X211 hx hby (v := (0 : Int64)) (by decide) at_356 (pc' := 357) rfl ?_
              refine own_lstore X211 hx hby (L' := #[.val (.int p0), .val (.int p1), .val (.int p2), .val (.long p3), .second, .val (.int (1 : Int32)), .val (.int (0 : Int32)), .val (.int (0 : Int32)), .val (.int (1 : Int32)), .val (.int n5), .val (.int n6), .val (.int n7), .val (.int n8), .val (.int n9), .val (.int n10), .val (.int n11), .val (.int n12), .val (.int n13), .val (.int n14), .val (.int n15), .val (.ref b16), .val (.int r212), .val (.long (0 : Int64)), .second, .val (.long (0 : Int64)), .second, .unset, .unset, .unset, .unset, .unset]) rfl at_357 (pc' := 359) rfl ?_
              refine own_iload X211 hx hby rfl at_359 (pc' := 361) rfl ?_
              refine own_iconst X211 hx hby (v := (1 : Int32)) (by decide) at_361 (pc' := 362) rfl ?_
              refine own_icF X211 hx hby at_362 (by decide) (pc' := 365) rfl ?_
              refine own_lload X211 hx hby rfl at_365 (pc' := 367) rfl ?_
              refine own_ldc2L X211 hx hby hZ hown (hw _ (List.mem_of_getElem? (i := 44) rfl)) at_367 (pc' := 370) rfl ?_
              refine own_iload X211 hx hby rfl at_370 (pc' := 372) rfl ?_
              refine own_i2l X211 hx hby rfl at_372 (pc' := 373) rfl ?_
              refine own_lmul X211 hx hby rfl at_373 (pc' := 374) rfl ?_
              refine own_iload X211 hx hby rfl at_374 (pc' := 376) rfl ?_
              refine own_i2l X211 hx hby rfl at_376 (pc' := 377) rfl ?_
              refine own_ldiv X211 hx hby (own_nzL (c_i2l n8) R_n8.1) rfl at_377 (pc' := 378) rfl ?_
              refine own_ladd X211 hx hby rfl at_378 (pc' := 379) rfl ?_
              generalize q_n213 : ((0 : Int64) + (((12 : Int64) * (n12.toInt64)) / (n8.toInt64))) = n213
              refine own_lstore X211 hx hby (L' := #[.val (.int p0), .val (.int p1), .val (.int p2), .val (.long p3), .second, .val (.int (1 : Int32)), .val (.int (0 : Int32)), .val (.int (0 : Int32)), .val (.int (1 : Int32)), .val (.int n5), .val (.int n6), .val (.int n7), .val (.int n8), .val (.int n9), .val (.int n10), .val (.int n11), .val (.int n12), .val (.int n13), .val (.int n14), .val (.int n15), .val (.ref b16), .val (.int r212), .val (.long (0 : Int64)), .second, .val (.long n213), .second, .unset, .unset, .unset, .unset, .unset]) rfl at_379 (pc' := 381) rfl ?_
              refine own_iload X211 hx hby rfl at_381 (pc' := 383) rfl ?_
              refine own_iconst X211 hx hby (v := (2 : Int32)) (by decide) at_383 (pc' := 384) rfl ?_
              refine own_icT X211 hx hby at_384 (by decide) (by decide) (pc' := 403) (by decide) ?_
              refine own_iload X211 hx hby rfl at_403 (pc' := 405) rfl ?_
              refine own_ifF X211 hx hby at_405 (by decide) (pc' := 408) rfl ?_
              refine own_ldc2L X211 hx hby hZ hown (hw _ (List.mem_of_getElem? (i := 42) rfl)) at_408 (pc' := 411) rfl ?_
              refine own_goto X211 hx hby at_411 (by decide) (pc' := 431) (by decide) ?_
              refine own_lstore X211 hx hby (L' := #[.val (.int p0), .val (.int p1), .val (.int p2), .val (.long p3), .second, .val (.int (1 : Int32)), .val (.int (0 : Int32)), .val (.int (0 : Int32)), .val (.int (1 : Int32)), .val (.int n5), .val (.int n6), .val (.int n7), .val (.int n8), .val (.int n9), .val (.int n10), .val (.int n11), .val (.int n12), .val (.int n13), .val (.int n14), .val (.int n15), .val (.ref b16), .val (.int r212), .val (.long (0 : Int64)), .second, .val (.long n213), .second, .val (.long (2 : Int64)), .second, .unset, .unset, .unset]) rfl at_431 (pc' := 433) rfl ?_
              refine own_iload X211 hx hby rfl at_433 (pc' := 435) rfl ?_
              refine own_ifT X211 hx hby at_435 (by decide) (by decide) (pc' := 444) (by decide) ?_
              refine own_iload X211 hx hby rfl at_444 (pc' := 446) rfl ?_
              refine own_iconst X211 hx hby (v := (1 : Int32)) (by decide) at_446 (pc' := 447) rfl ?_
              refine own_icF X211 hx hby at_447 (by decide) (pc' := 450) rfl ?_
              refine own_ldc2L X211 hx hby hZ hown (hw _ (List.mem_of_getElem? (i := 42) rfl)) at_450 (pc' := 453) rfl ?_
              refine own_lload X211 hx hby rfl at_453 (pc' := 455) rfl ?_
              refine own_lmul X211 hx hby rfl at_455 (pc' := 456) rfl ?_
              refine own_goto X211 hx hby at_456 (by decide) (pc' := 461) (by decide) ?_
              generalize q_n214 : ((2 : Int64) * n213) = n214
              refine own_lstore X211 hx hby (L' := #[.val (.int p0), .val (.int p1), .val (.int p2), .val (.long p3), .second, .val (.int (1 : Int32)), .val (.int (0 : Int32)), .val (.int (0 : Int32)), .val (.int (1 : Int32)), .val (.int n5), .val (.int n6), .val (.int n7), .val (.int n8), .val (.int n9), .val (.int n10), .val (.int n11), .val (.int n12), .val (.int n13), .val (.int n14), .val (.int n15), .val (.ref b16), .val (.int r212), .val (.long (0 : Int64)), .second, .val (.long n213), .second, .val (.long (2 : Int64)), .second, .val (.long n214), .second, .unset]) rfl at_461 (pc' := 463) rfl ?_
              have eu := own_e2
              have tw_n213 := own_tw (k := n12) (c_i2l n8) R_n8 (own_k10 q_n12)
              have bq_n213 := own_dq (n := n8.toInt) (k := n12.toInt) R_n8 (own_k10 q_n12)
              have et_n213 : n213.toInt = (0 + 12 * n12.toInt / n8.toInt) := own_ls q_n213 own_e0 tw_n213 (own_w3 own_b0) bq_n213
              have ed : n214.toInt = 2 * (0 + 12 * n12.toInt / n8.toInt) := own_l2 q_n214 et_n213 (own_b1' bq_n213)
              refine own_lload X211 hx hby rfl at_463 (pc' := 465) rfl ?_
              refine own_bipush X211 hx hby (v := (8 : Int32)) (by decide) at_465 (pc' := 467) rfl ?_
              refine own_iload X211 hx hby rfl at_467 (pc' := 469) rfl ?_
              as_aux_lemma =>
                refine own_isub X211 hx hby rfl at_469 (pc' := 470) rfl ?_
                refine own_i2l X211 hx hby rfl at_470 (pc' := 471) rfl ?_
                refine own_lmul X211 hx hby rfl at_471 (pc' := 472) rfl ?_
                refine own_lload X211 hx hby rfl at_472 (pc' := 474) rfl ?_
                refine own_iload X211 hx hby rfl at_474 (pc' := 476) rfl ?_
                refine own_i2l X211 hx hby rfl at_476 (pc' := 477) rfl ?_
                refine own_lmul X211 hx hby rfl at_477 (pc' := 478) rfl ?_
                generalize q_n215 : ((2 : Int64) * (((8 : Int32) - n5).toInt64)) = n215
                generalize q_n216 : (n214 * (n5.toInt64)) = n216
                refine own_lcmp X211 hx hby rfl at_478 (pc' := 479) rfl ?_
                obtain ⟨w217, q_w217⟩ : ∃ z : Int32, (if n216 < n215 then (0 : Int32) else (1 : Int32)) = z := ⟨_, rfl⟩
                refine own_join (S' := T211.setTop (mkF m 487 #[.val (.int p0), .val (.int p1), .val (.int p2), .val (.long p3), .second, .val (.int (1 : Int32)), .val (.int (0 : Int32)), .val (.int (0 : Int32)), .val (.int (1 : Int32)), .val (.int n5), .val (.int n6), .val (.int n7), .val (.int n8), .val (.int n9), .val (.int n10), .val (.int n11), .val (.int n12), .val (.int n13), .val (.int n14), .val (.int n15), .val (.ref b16), .val (.int r212), .val (.long (0 : Int64)), .second, .val (.long n213), .second, .val (.long (2 : Int64)), .second, .val (.long n214), .second, .unset] [(.int w217)])) (fun F' k' => ?_) ?_
                · rw [← q_w217] at k'
                  by_cases hc218 : n216 < n215
                  · simp only [if_pos hc218] at k'
                    refine own_ifT X211 hx hby at_479 (own_lc_gt_p hc218) (by decide) (pc' := 486) (by decide) ?_
                    refine own_iconst X211 hx hby (v := (0 : Int32)) (by decide) at_486 (pc' := 487) rfl ?_
                    exact k'
                  · simp only [if_neg hc218] at k'
                    refine own_ifF X211 hx hby at_479 (own_lc_gt_n hc218) (pc' := 482) rfl ?_
                    refine own_iconst X211 hx hby (v := (1 : Int32)) (by decide) at_482 (pc' := 483) rfl ?_
                    refine own_goto X211 hx hby at_483 (by decide) (pc' := 487) (by decide) ?_
                    exact k'
                refine own_istore X211 hx hby (L' := #[.val (.int p0), .val (.int p1), .val (.int p2), .val (.long p3), .second, .val (.int (1 : Int32)), .val (.int (0 : Int32)), .val (.int (0 : Int32)), .val (.int (1 : Int32)), .val (.int n5), .val (.int n6), .val (.int n7), .val (.int n8), .val (.int n9), .val (.int n10), .val (.int n11), .val (.int n12), .val (.int n13), .val (.int n14), .val (.int n15), .val (.ref b16), .val (.int r212), .val (.long (0 : Int64)), .second, .val (.long n213), .second, .val (.long (2 : Int64)), .second, .val (.long n214), .second, .val (.int w217)]) rfl at_487 (pc' := 489) rfl ?_
                refine own_iload X211 hx hby rfl at_489 (pc' := 491) rfl ?_
                refine own_iload X211 hx hby rfl at_491 (pc' := 493) rfl ?_
                have hk219 : r212 = w217 := own_fin SD.2.2.2 R9 own_tz (own_t2 (own_b1' b_v208)) eu ed q_r212 q_n215 q_n216 q_w217
                refine own_icF X211 hx hby at_493 (own_ic_ne_p hk219) (pc' := 496) rfl ?_
                refine own_iconst X211 hx hby (v := (1 : Int32)) (by decide) at_496 (pc' := 497) rfl ?_
                refine own_goto X211 hx hby at_497 (by decide) (pc' := 501) (by decide) ?_
                exact own_retZ X211 hx hby Bd.notSynchronized Bd.returns (Or.inr rfl) at_501 (by decide) (by decide) eH211 ⟨rfl, N211⟩
          · as_aux_lemma =>
              refine own_iload X193 hx hby rfl at_237 (pc' := 239) rfl ?_
              refine own_iconst X193 hx hby (v := (1 : Int32)) (by decide) at_239 (pc' := 240) rfl ?_
              refine own_icF X193 hx hby at_240 (by decide) (pc' := 243) rfl ?_
              refine own_aload X193 hx hby rfl rfl at_243 (pc' := 245) rfl ?_
              refine own_iload X193 hx hby rfl at_245 (pc' := 247) rfl ?_
              refine own_iconst X193 hx hby (v := (0 : Int32)) (by decide) at_247 (pc' := 248) rfl ?_
              refine own_iload X193 hx hby rfl at_248 (pc' := 250) rfl ?_
              obtain ⟨v220, q_v220⟩ : ∃ z : UInt64, (FP.i2d n8) = z := ⟨_, rfl⟩
              have D_v220 : Dy v220 n8.toInt 0 := q_v220 ▸ dy_i2d n8
              refine own_i2d X193 hx hby q_v220 at_250 (pc' := 251) rfl ?_
              refine own_ldc2D X193 hx hby hZ hown (hw _ (List.mem_of_getElem? (i := 43) rfl)) at_251 (pc' := 254) rfl ?_
              obtain ⟨v221, q_v221⟩ : ∃ z : UInt64, (FP.ddiv v220 (4616189618054758400 : UInt64)) = z := ⟨_, rfl⟩
              have R_n8 := own_q3r q_n8
              have D_v221 : Dy v221 n8.toInt 2 := own_div4 q_v221 D_v220 R_n8
              have nn_v221 := D_v221.nn
              refine own_ddiv X193 hx hby (by rw [q_v221]; exact nn_v221) q_v221 at_254 (pc' := 255) rfl ?_
              refine own_iconst X193 hx hby (v := (3 : Int32)) (by decide) at_255 (pc' := 256) rfl ?_
              refine own_iload X193 hx hby rfl at_256 (pc' := 258) rfl ?_
              refine own_imul X193 hx hby rfl at_258 (pc' := 259) rfl ?_
              obtain ⟨v222, q_v222⟩ : ∃ z : UInt64, (FP.i2d ((3 : Int32) * n12)) = z := ⟨_, rfl⟩
              have D_v222 : Dy v222 (3 * n12.toInt) 0 := q_v222 ▸ (dy_i2d ((3 : Int32) * n12)).to (own_3k (own_k10 q_n12))
              refine own_i2d X193 hx hby q_v222 at_259 (pc' := 260) rfl ?_
              have LU260g := own_g D_v221 R_n8
              have LU260 := own_dn D_v221 R_n8 D_v222 (own_k10 q_n12) own_d0 own_b0
              refine own_virtual X193 hx hby hZ (y := (⟨"com/example/bidfold/bidfold/Branching", "learn", "(IZDD)V"⟩ : MethodName)) (y' := (⟨"com/example/bidfold/bidfold/Branching", "learn", "(IZDD)V"⟩ : MethodName)) (C := "com/example/bidfold/bidfold/Branching") (rest := []) hown (hw _ (List.mem_of_getElem? (i := 26) rfl)) (hw _ (List.mem_of_getElem? (i := 27) rfl)) (notFace_of_selects (args := #[]) (mvT hZ (hw _ (List.mem_of_getElem? (i := 29) rfl)))) (hw _ (List.mem_of_getElem? (i := 29) rfl)) (hw _ (List.mem_of_getElem? (i := 28) rfl)) (hw _ (List.mem_of_getElem? (i := 30) rfl)) (hw _ (List.mem_of_getElem? (i := 2) rfl)) (by decide) (rm310 l Z a0 hw [] b16 v221 v222 b4_17 b6_17 v194 (0 : UInt64) (1 : Int32) (0 : Int32) h193 n0 Z0 F_b16_downFalls F_b16_downCounts V_b4_17 V_b6_17 LU260g.1 LU260g.2 LU260.1 LU260.2.1 g_b4_17 ne_b16_b4_17 (Ne.symm ne_b4_17_b6_17) g_b6_17 ne_b16_b6_17) eH193 (by rw [hml]; rfl) (a := b16) E_b16 (argsL := [(.int (1 : Int32)), (.int (0 : Int32)), (.double v221), (.double v222)]) rfl (lenOf pd_2 rfl) rfl at_260 (pc' := 263) rfl (by decide) (W := 0) (Nat.le_of_eq rfl) (by decide) (by decide) (by decide) (fun T223 h223 Lc223 v223r X223 eH223 hQ223 => ?_)
              obtain ⟨rfl, Nq223, Kq223, gq223_0, gq223_1⟩ := hQ223
              have N223 := Fr.app N193 Nq223
              replace E_b16 := E_b16.keep Kq223
              replace F_b16_downFalls := F_b16_downFalls.keep Kq223 (ninS ne_b16_b4_17 (ninS ne_b16_b6_17 nin0))
              replace F_b16_downCounts := F_b16_downCounts.keep Kq223 (ninS ne_b16_b4_17 (ninS ne_b16_b6_17 nin0))
              replace F_b16_upFalls := F_b16_upFalls.keep Kq223 (ninS ne_b16_b4_17 (ninS ne_b16_b6_17 nin0))
              replace F_b16_upCounts := F_b16_upCounts.keep Kq223 (ninS ne_b16_b4_17 (ninS ne_b16_b6_17 nin0))
              replace E_b4_17 := E_b4_17.keep Kq223
              replace E_b6_17 := E_b6_17.keep Kq223
              replace E_b8_17 := E_b8_17.keep Kq223
              replace V_b8_17 := V_b8_17.keep Kq223 (ninS (Ne.symm ne_b4_17_b8_17) (ninS (Ne.symm ne_b6_17_b8_17) nin0))
              replace E_b10_17 := E_b10_17.keep Kq223
              replace V_b10_17 := V_b10_17.keep Kq223 (ninS (Ne.symm ne_b4_17_b10_17) (ninS (Ne.symm ne_b6_17_b10_17) nin0))
              obtain ⟨v224, q_v224⟩ : ∃ z : UInt64, (FP.dadd (0 : UInt64) (FP.ddiv v222 v221)) = z := ⟨_, rfl⟩
              have V_b4_17 : Ary tr Z h223 b4_17 .double [(.double v194), (.double v224)] := by rw [← q_v224]; exact gq223_0
              rw [show ((0 : Int32) + (1 : Int32)) = (1 : Int32) from by decide] at gq223_1
              have V_b6_17 := gq223_1
              replace Z0 := Nat.le_trans Z0 Kq223.1
              have S_v224 : Dy v224 (0 + 12 * n12.toInt / n8.toInt) 0 := by have q := LU260.2.2; rwa [q_v224] at q
              have b_v224 := own_dq (n := n8.toInt) (k := n12.toInt) R_n8 (own_k10 q_n12)
              refine own_iload X223 hx hby rfl at_263 (pc' := 265) rfl ?_
              refine own_iconst X223 hx hby (v := (2 : Int32)) (by decide) at_265 (pc' := 266) rfl ?_
              refine own_icF X223 hx hby at_266 (by decide) (pc' := 269) rfl ?_
              refine own_aload X223 hx hby rfl rfl at_269 (pc' := 271) rfl ?_
              refine own_iload X223 hx hby rfl at_271 (pc' := 273) rfl ?_
              refine own_iconst X223 hx hby (v := (0 : Int32)) (by decide) at_273 (pc' := 274) rfl ?_
              refine own_iload X223 hx hby rfl at_274 (pc' := 276) rfl ?_
              obtain ⟨v225, q_v225⟩ : ∃ z : UInt64, (FP.i2d n9) = z := ⟨_, rfl⟩
              have D_v225 : Dy v225 n9.toInt 0 := q_v225 ▸ dy_i2d n9
              refine own_i2d X223 hx hby q_v225 at_276 (pc' := 277) rfl ?_
              refine own_ldc2D X223 hx hby hZ hown (hw _ (List.mem_of_getElem? (i := 43) rfl)) at_277 (pc' := 280) rfl ?_
              obtain ⟨v226, q_v226⟩ : ∃ z : UInt64, (FP.ddiv v225 (4616189618054758400 : UInt64)) = z := ⟨_, rfl⟩
              have R_n9 := own_q3r q_n9
              have D_v226 : Dy v226 n9.toInt 2 := own_div4 q_v226 D_v225 R_n9
              have nn_v226 := D_v226.nn
              refine own_ddiv X223 hx hby (by rw [q_v226]; exact nn_v226) q_v226 at_280 (pc' := 281) rfl ?_
              refine own_iconst X223 hx hby (v := (3 : Int32)) (by decide) at_281 (pc' := 282) rfl ?_
              refine own_iload X223 hx hby rfl at_282 (pc' := 284) rfl ?_
              refine own_imul X223 hx hby rfl at_284 (pc' := 285) rfl ?_
              obtain ⟨v227, q_v227⟩ : ∃ z : UInt64, (FP.i2d ((3 : Int32) * n13)) = z := ⟨_, rfl⟩
              have D_v227 : Dy v227 (3 * n13.toInt) 0 := q_v227 ▸ (dy_i2d ((3 : Int32) * n13)).to (own_3k (own_k10 q_n13))
              refine own_i2d X223 hx hby q_v227 at_285 (pc' := 286) rfl ?_
              have LU286g := own_g D_v226 R_n9
              have LU286 := own_dn D_v226 R_n9 D_v227 (own_k10 q_n13) S_v224 (own_b1 b_v224)
              refine own_virtual X223 hx hby hZ (y := (⟨"com/example/bidfold/bidfold/Branching", "learn", "(IZDD)V"⟩ : MethodName)) (y' := (⟨"com/example/bidfold/bidfold/Branching", "learn", "(IZDD)V"⟩ : MethodName)) (C := "com/example/bidfold/bidfold/Branching") (rest := []) hown (hw _ (List.mem_of_getElem? (i := 26) rfl)) (hw _ (List.mem_of_getElem? (i := 27) rfl)) (notFace_of_selects (args := #[]) (mvT hZ (hw _ (List.mem_of_getElem? (i := 29) rfl)))) (hw _ (List.mem_of_getElem? (i := 29) rfl)) (hw _ (List.mem_of_getElem? (i := 28) rfl)) (hw _ (List.mem_of_getElem? (i := 30) rfl)) (hw _ (List.mem_of_getElem? (i := 2) rfl)) (by decide) (rm310 l Z a0 hw [] b16 v226 v227 b4_17 b6_17 v194 v224 (1 : Int32) (1 : Int32) h223 n0 Z0 F_b16_downFalls F_b16_downCounts V_b4_17 V_b6_17 LU286g.1 LU286g.2 LU286.1 LU286.2.1 g_b4_17 ne_b16_b4_17 (Ne.symm ne_b4_17_b6_17) g_b6_17 ne_b16_b6_17) eH223 (by rw [hml]; rfl) (a := b16) E_b16 (argsL := [(.int (1 : Int32)), (.int (0 : Int32)), (.double v226), (.double v227)]) rfl (lenOf pd_2 rfl) rfl at_286 (pc' := 289) rfl (by decide) (W := 0) (Nat.le_of_eq rfl) (by decide) (by decide) (by decide) (fun T228 h228 Lc228 v228r X228 eH228 hQ228 => ?_)
              obtain ⟨rfl, Nq228, Kq228, gq228_0, gq228_1⟩ := hQ228
              have N228 := Fr.app N223 Nq228
              replace E_b16 := E_b16.keep Kq228
              replace F_b16_downFalls := F_b16_downFalls.keep Kq228 (ninS ne_b16_b4_17 (ninS ne_b16_b6_17 nin0))
              replace F_b16_downCounts := F_b16_downCounts.keep Kq228 (ninS ne_b16_b4_17 (ninS ne_b16_b6_17 nin0))
              replace F_b16_upFalls := F_b16_upFalls.keep Kq228 (ninS ne_b16_b4_17 (ninS ne_b16_b6_17 nin0))
              replace F_b16_upCounts := F_b16_upCounts.keep Kq228 (ninS ne_b16_b4_17 (ninS ne_b16_b6_17 nin0))
              replace E_b4_17 := E_b4_17.keep Kq228
              replace E_b6_17 := E_b6_17.keep Kq228
              replace E_b8_17 := E_b8_17.keep Kq228
              replace V_b8_17 := V_b8_17.keep Kq228 (ninS (Ne.symm ne_b4_17_b8_17) (ninS (Ne.symm ne_b6_17_b8_17) nin0))
              replace E_b10_17 := E_b10_17.keep Kq228
              replace V_b10_17 := V_b10_17.keep Kq228 (ninS (Ne.symm ne_b4_17_b10_17) (ninS (Ne.symm ne_b6_17_b10_17) nin0))
              obtain ⟨v229, q_v229⟩ : ∃ z : UInt64, (FP.dadd v224 (FP.ddiv v227 v226)) = z := ⟨_, rfl⟩
              have V_b4_17 : Ary tr Z h228 b4_17 .double [(.double v194), (.double v229)] := by rw [← q_v229]; exact gq228_0
              rw [show ((1 : Int32) + (1 : Int32)) = (2 : Int32) from by decide] at gq228_1
              have V_b6_17 := gq228_1
              replace Z0 := Nat.le_trans Z0 Kq228.1
              have S_v229 : Dy v229 ((0 + 12 * n12.toInt / n8.toInt) + 12 * n13.toInt / n9.toInt) 0 := by have q := LU286.2.2; rwa [q_v229] at q
              have b_v229 := own_dq (n := n9.toInt) (k := n13.toInt) R_n9 (own_k10 q_n13)
              refine own_aload X228 hx hby rfl rfl at_289 (pc' := 291) rfl ?_
              refine own_iload X228 hx hby rfl at_291 (pc' := 293) rfl ?_
              refine own_iload X228 hx hby rfl at_293 (pc' := 295) rfl ?_
              obtain ⟨v230, q_v230⟩ : ∃ z : UInt64, (FP.i2d n5) = z := ⟨_, rfl⟩
              have D_v230 : Dy v230 n5.toInt 0 := q_v230 ▸ dy_i2d n5
              refine own_i2d X228 hx hby q_v230 at_295 (pc' := 296) rfl ?_
              refine own_ldc2D X228 hx hby hZ hown (hw _ (List.mem_of_getElem? (i := 33) rfl)) at_296 (pc' := 299) rfl ?_
              obtain ⟨v231, q_v231⟩ : ∃ z : UInt64, (FP.ddiv v230 (4620693217682128896 : UInt64)) = z := ⟨_, rfl⟩
              have R9 := own_r9 q_n5
              have D_v231 : Dy v231 n5.toInt 3 := own_div8 q_v231 D_v230 R9
              have nn_v231 := D_v231.nn
              refine own_ddiv X228 hx hby (by rw [q_v231]; exact nn_v231) q_v231 at_299 (pc' := 300) rfl ?_
              have MA := own_f0 (e := (0 : UInt64))
              have MB0 := own_f2 S_v229 (own_b2 b_v224 b_v229)
              have MB := own_ifp (p := 0 < (2 : Int32)) (by decide) (y := (4607182418800017408 : UInt64)) MB0
              have SD := own_sides MA MB own_tz (own_t1 (own_b2 b_v224 b_v229)) D_v231 R9
              refine own_virtual X228 hx hby hZ (y := (⟨"com/example/bidfold/bidfold/Branching", "leansIn", "(ID)Z"⟩ : MethodName)) (y' := (⟨"com/example/bidfold/bidfold/Branching", "leansIn", "(ID)Z"⟩ : MethodName)) (C := "com/example/bidfold/bidfold/Branching") (rest := []) hown (hw _ (List.mem_of_getElem? (i := 34) rfl)) (hw _ (List.mem_of_getElem? (i := 35) rfl)) (notFace_of_selects (args := #[]) (mvT hZ (hw _ (List.mem_of_getElem? (i := 37) rfl)))) (hw _ (List.mem_of_getElem? (i := 37) rfl)) (hw _ (List.mem_of_getElem? (i := 36) rfl)) (hw _ (List.mem_of_getElem? (i := 38) rfl)) (hw _ (List.mem_of_getElem? (i := 2) rfl)) (by decide) (rm41 l Z a0 hw [] b16 v231 b8_17 b10_17 v191 (0 : UInt64) (1 : Int32) (0 : Int32) b4_17 b6_17 v194 v229 (1 : Int32) (2 : Int32) h228 n0 Z0 F_b16_upFalls F_b16_upCounts V_b8_17 V_b10_17 F_b16_downFalls F_b16_downCounts V_b4_17 V_b6_17 (fun h => absurd h (by decide)) SD.1 SD.2.1 (fun _ => MB0.nn) SD.2.2.1) eH228 (by rw [hml]; rfl) (a := b16) E_b16 (argsL := [(.int (1 : Int32)), (.double v231)]) rfl (lenOf pd_3 rfl) rfl at_300 (pc' := 303) rfl (by decide) (W := 0) (Nat.le_of_eq rfl) (by decide) (by decide) (by decide) (fun T232 h232 Lc232 v232r X232 eH232 hQ232 => ?_)
              obtain ⟨rfl, Nq232, rfl⟩ := hQ232
              have N232 := Fr.app N228 Nq232
              dsimp only [Option.toList, List.cons_append, List.nil_append]
              generalize q_r233 : (if dle (FP.dmul (if 0 < (0 : Int32) then (FP.ddiv (0 : UInt64) (FP.i2d (0 : Int32))) else (4607182418800017408 : UInt64)) (FP.dsub (4607182418800017408 : UInt64) v231)) (FP.dmul (if 0 < (2 : Int32) then (FP.ddiv v229 (FP.i2d (2 : Int32))) else (4607182418800017408 : UInt64)) v231) then (1 : Int32) else (0 : Int32)) = r233
              refine own_istore X232 hx hby (L' := #[.val (.int p0), .val (.int p1), .val (.int p2), .val (.long p3), .second, .val (.int (1 : Int32)), .val (.int (0 : Int32)), .val (.int (0 : Int32)), .val (.int (2 : Int32)), .val (.int n5), .val (.int n6), .val (.int n7), .val (.int n8), .val (.int n9), .val (.int n10), .val (.int n11), .val (.int n12), .val (.int n13), .val (.int n14), .val (.int n15), .val (.ref b16), .val (.int r233), .unset, .unset, .unset, .unset, .unset, .unset, .unset, .unset, .unset]) rfl at_303 (pc' := 305) rfl ?_
              refine own_lconst X232 hx hby (v := (0 : Int64)) (by decide) at_305 (pc' := 306) rfl ?_
              refine own_lstore X232 hx hby (L' := #[.val (.int p0), .val (.int p1), .val (.int p2), .val (.long p3), .second, .val (.int (1 : Int32)), .val (.int (0 : Int32)), .val (.int (0 : Int32)), .val (.int (2 : Int32)), .val (.int n5), .val (.int n6), .val (.int n7), .val (.int n8), .val (.int n9), .val (.int n10), .val (.int n11), .val (.int n12), .val (.int n13), .val (.int n14), .val (.int n15), .val (.ref b16), .val (.int r233), .val (.long (0 : Int64)), .second, .unset, .unset, .unset, .unset, .unset, .unset, .unset]) rfl at_306 (pc' := 308) rfl ?_
              refine own_iload X232 hx hby rfl at_308 (pc' := 310) rfl ?_
              refine own_iconst X232 hx hby (v := (1 : Int32)) (by decide) at_310 (pc' := 311) rfl ?_
              refine own_icT X232 hx hby at_311 (by decide) (by decide) (pc' := 332) (by decide) ?_
              refine own_iload X232 hx hby rfl at_332 (pc' := 334) rfl ?_
              refine own_iconst X232 hx hby (v := (2 : Int32)) (by decide) at_334 (pc' := 335) rfl ?_
              refine own_icT X232 hx hby at_335 (by decide) (by decide) (pc' := 356) (by decide) ?_
              refine own_lconst X232 hx hby (v := (0 : Int64)) (by decide) at_356 (pc' := 357) rfl ?_
              as_aux_lemma =>
                refine own_lstore X232 hx hby (L' := #[.val (.int p0), .val (.int p1), .val (.int p2), .val (.long p3), .second, .val (.int (1 : Int32)), .val (.int (0 : Int32)), .val (.int (0 : Int32)), .val (.int (2 : Int32)), .val (.int n5), .val (.int n6), .val (.int n7), .val (.int n8), .val (.int n9), .val (.int n10), .val (.int n11), .val (.int n12), .val (.int n13), .val (.int n14), .val (.int n15), .val (.ref b16), .val (.int r233), .val (.long (0 : Int64)), .second, .val (.long (0 : Int64)), .second, .unset, .unset, .unset, .unset, .unset]) rfl at_357 (pc' := 359) rfl ?_
                refine own_iload X232 hx hby rfl at_359 (pc' := 361) rfl ?_
                refine own_iconst X232 hx hby (v := (1 : Int32)) (by decide) at_361 (pc' := 362) rfl ?_
                refine own_icF X232 hx hby at_362 (by decide) (pc' := 365) rfl ?_
                refine own_lload X232 hx hby rfl at_365 (pc' := 367) rfl ?_
                refine own_ldc2L X232 hx hby hZ hown (hw _ (List.mem_of_getElem? (i := 44) rfl)) at_367 (pc' := 370) rfl ?_
                refine own_iload X232 hx hby rfl at_370 (pc' := 372) rfl ?_
                refine own_i2l X232 hx hby rfl at_372 (pc' := 373) rfl ?_
                refine own_lmul X232 hx hby rfl at_373 (pc' := 374) rfl ?_
                refine own_iload X232 hx hby rfl at_374 (pc' := 376) rfl ?_
                refine own_i2l X232 hx hby rfl at_376 (pc' := 377) rfl ?_
                refine own_ldiv X232 hx hby (own_nzL (c_i2l n8) R_n8.1) rfl at_377 (pc' := 378) rfl ?_
                refine own_ladd X232 hx hby rfl at_378 (pc' := 379) rfl ?_
                generalize q_n234 : ((0 : Int64) + (((12 : Int64) * (n12.toInt64)) / (n8.toInt64))) = n234
                refine own_lstore X232 hx hby (L' := #[.val (.int p0), .val (.int p1), .val (.int p2), .val (.long p3), .second, .val (.int (1 : Int32)), .val (.int (0 : Int32)), .val (.int (0 : Int32)), .val (.int (2 : Int32)), .val (.int n5), .val (.int n6), .val (.int n7), .val (.int n8), .val (.int n9), .val (.int n10), .val (.int n11), .val (.int n12), .val (.int n13), .val (.int n14), .val (.int n15), .val (.ref b16), .val (.int r233), .val (.long (0 : Int64)), .second, .val (.long n234), .second, .unset, .unset, .unset, .unset, .unset]) rfl at_379 (pc' := 381) rfl ?_
                refine own_iload X232 hx hby rfl at_381 (pc' := 383) rfl ?_
                refine own_iconst X232 hx hby (v := (2 : Int32)) (by decide) at_383 (pc' := 384) rfl ?_
                refine own_icF X232 hx hby at_384 (by decide) (pc' := 387) rfl ?_
                refine own_lload X232 hx hby rfl at_387 (pc' := 389) rfl ?_
                refine own_ldc2L X232 hx hby hZ hown (hw _ (List.mem_of_getElem? (i := 44) rfl)) at_389 (pc' := 392) rfl ?_
                refine own_iload X232 hx hby rfl at_392 (pc' := 394) rfl ?_
                refine own_i2l X232 hx hby rfl at_394 (pc' := 395) rfl ?_
                refine own_lmul X232 hx hby rfl at_395 (pc' := 396) rfl ?_
                refine own_iload X232 hx hby rfl at_396 (pc' := 398) rfl ?_
                refine own_i2l X232 hx hby rfl at_398 (pc' := 399) rfl ?_
                refine own_ldiv X232 hx hby (own_nzL (c_i2l n9) R_n9.1) rfl at_399 (pc' := 400) rfl ?_
                refine own_ladd X232 hx hby rfl at_400 (pc' := 401) rfl ?_
                generalize q_n235 : (n234 + (((12 : Int64) * (n13.toInt64)) / (n9.toInt64))) = n235
                refine own_lstore X232 hx hby (L' := #[.val (.int p0), .val (.int p1), .val (.int p2), .val (.long p3), .second, .val (.int (1 : Int32)), .val (.int (0 : Int32)), .val (.int (0 : Int32)), .val (.int (2 : Int32)), .val (.int n5), .val (.int n6), .val (.int n7), .val (.int n8), .val (.int n9), .val (.int n10), .val (.int n11), .val (.int n12), .val (.int n13), .val (.int n14), .val (.int n15), .val (.ref b16), .val (.int r233), .val (.long (0 : Int64)), .second, .val (.long n235), .second, .unset, .unset, .unset, .unset, .unset]) rfl at_401 (pc' := 403) rfl ?_
                refine own_iload X232 hx hby rfl at_403 (pc' := 405) rfl ?_
                refine own_ifF X232 hx hby at_405 (by decide) (pc' := 408) rfl ?_
                refine own_ldc2L X232 hx hby hZ hown (hw _ (List.mem_of_getElem? (i := 42) rfl)) at_408 (pc' := 411) rfl ?_
                refine own_goto X232 hx hby at_411 (by decide) (pc' := 431) (by decide) ?_
                refine own_lstore X232 hx hby (L' := #[.val (.int p0), .val (.int p1), .val (.int p2), .val (.long p3), .second, .val (.int (1 : Int32)), .val (.int (0 : Int32)), .val (.int (0 : Int32)), .val (.int (2 : Int32)), .val (.int n5), .val (.int n6), .val (.int n7), .val (.int n8), .val (.int n9), .val (.int n10), .val (.int n11), .val (.int n12), .val (.int n13), .val (.int n14), .val (.int n15), .val (.ref b16), .val (.int r233), .val (.long (0 : Int64)), .second, .val (.long n235), .second, .val (.long (2 : Int64)), .second, .unset, .unset, .unset]) rfl at_431 (pc' := 433) rfl ?_
                refine own_iload X232 hx hby rfl at_433 (pc' := 435) rfl ?_
                refine own_ifT X232 hx hby at_435 (by decide) (by decide) (pc' := 444) (by decide) ?_
                refine own_iload X232 hx hby rfl at_444 (pc' := 446) rfl ?_
                refine own_iconst X232 hx hby (v := (1 : Int32)) (by decide) at_446 (pc' := 447) rfl ?_
                refine own_icT X232 hx hby at_447 (by decide) (by decide) (pc' := 459) (by decide) ?_
                refine own_lload X232 hx hby rfl at_459 (pc' := 461) rfl ?_
                refine own_lstore X232 hx hby (L' := #[.val (.int p0), .val (.int p1), .val (.int p2), .val (.long p3), .second, .val (.int (1 : Int32)), .val (.int (0 : Int32)), .val (.int (0 : Int32)), .val (.int (2 : Int32)), .val (.int n5), .val (.int n6), .val (.int n7), .val (.int n8), .val (.int n9), .val (.int n10), .val (.int n11), .val (.int n12), .val (.int n13), .val (.int n14), .val (.int n15), .val (.ref b16), .val (.int r233), .val (.long (0 : Int64)), .second, .val (.long n235), .second, .val (.long (2 : Int64)), .second, .val (.long n235), .second, .unset]) rfl at_461 (pc' := 463) rfl ?_
                have eu := own_e2
                have tw_n234 := own_tw (k := n12) (c_i2l n8) R_n8 (own_k10 q_n12)
                have bq_n234 := own_dq (n := n8.toInt) (k := n12.toInt) R_n8 (own_k10 q_n12)
                have et_n234 : n234.toInt = (0 + 12 * n12.toInt / n8.toInt) := own_ls q_n234 own_e0 tw_n234 (own_w3 own_b0) bq_n234
                have tw_n235 := own_tw (k := n13) (c_i2l n9) R_n9 (own_k10 q_n13)
                have bq_n235 := own_dq (n := n9.toInt) (k := n13.toInt) R_n9 (own_k10 q_n13)
                have et_n235 : n235.toInt = ((0 + 12 * n12.toInt / n8.toInt) + 12 * n13.toInt / n9.toInt) := own_ls q_n235 et_n234 tw_n235 (own_b1' bq_n234) bq_n235
                have ed := et_n235
                refine own_lload X232 hx hby rfl at_463 (pc' := 465) rfl ?_
                refine own_bipush X232 hx hby (v := (8 : Int32)) (by decide) at_465 (pc' := 467) rfl ?_
                refine own_iload X232 hx hby rfl at_467 (pc' := 469) rfl ?_
                refine own_isub X232 hx hby rfl at_469 (pc' := 470) rfl ?_
                refine own_i2l X232 hx hby rfl at_470 (pc' := 471) rfl ?_
                refine own_lmul X232 hx hby rfl at_471 (pc' := 472) rfl ?_
                refine own_lload X232 hx hby rfl at_472 (pc' := 474) rfl ?_
                refine own_iload X232 hx hby rfl at_474 (pc' := 476) rfl ?_
                refine own_i2l X232 hx hby rfl at_476 (pc' := 477) rfl ?_
                refine own_lmul X232 hx hby rfl at_477 (pc' := 478) rfl ?_
                generalize q_n236 : ((2 : Int64) * (((8 : Int32) - n5).toInt64)) = n236
                generalize q_n237 : (n235 * (n5.toInt64)) = n237
                refine own_lcmp X232 hx hby rfl at_478 (pc' := 479) rfl ?_
                obtain ⟨w238, q_w238⟩ : ∃ z : Int32, (if n237 < n236 then (0 : Int32) else (1 : Int32)) = z := ⟨_, rfl⟩
                refine own_join (S' := T232.setTop (mkF m 487 #[.val (.int p0), .val (.int p1), .val (.int p2), .val (.long p3), .second, .val (.int (1 : Int32)), .val (.int (0 : Int32)), .val (.int (0 : Int32)), .val (.int (2 : Int32)), .val (.int n5), .val (.int n6), .val (.int n7), .val (.int n8), .val (.int n9), .val (.int n10), .val (.int n11), .val (.int n12), .val (.int n13), .val (.int n14), .val (.int n15), .val (.ref b16), .val (.int r233), .val (.long (0 : Int64)), .second, .val (.long n235), .second, .val (.long (2 : Int64)), .second, .val (.long n235), .second, .unset] [(.int w238)])) (fun F' k' => ?_) ?_
                · rw [← q_w238] at k'
                  by_cases hc239 : n237 < n236
                  · simp only [if_pos hc239] at k'
                    refine own_ifT X232 hx hby at_479 (own_lc_gt_p hc239) (by decide) (pc' := 486) (by decide) ?_
                    refine own_iconst X232 hx hby (v := (0 : Int32)) (by decide) at_486 (pc' := 487) rfl ?_
                    exact k'
                  · simp only [if_neg hc239] at k'
                    refine own_ifF X232 hx hby at_479 (own_lc_gt_n hc239) (pc' := 482) rfl ?_
                    refine own_iconst X232 hx hby (v := (1 : Int32)) (by decide) at_482 (pc' := 483) rfl ?_
                    refine own_goto X232 hx hby at_483 (by decide) (pc' := 487) (by decide) ?_
                    exact k'
                refine own_istore X232 hx hby (L' := #[.val (.int p0), .val (.int p1), .val (.int p2), .val (.long p3), .second, .val (.int (1 : Int32)), .val (.int (0 : Int32)), .val (.int (0 : Int32)), .val (.int (2 : Int32)), .val (.int n5), .val (.int n6), .val (.int n7), .val (.int n8), .val (.int n9), .val (.int n10), .val (.int n11), .val (.int n12), .val (.int n13), .val (.int n14), .val (.int n15), .val (.ref b16), .val (.int r233), .val (.long (0 : Int64)), .second, .val (.long n235), .second, .val (.long (2 : Int64)), .second, .val (.long n235), .second, .val (.int w238)]) rfl at_487 (pc' := 489) rfl ?_
                refine own_iload X232 hx hby rfl at_489 (pc' := 491) rfl ?_
                refine own_iload X232 hx hby rfl at_491 (pc' := 493) rfl ?_
                have hk240 : r233 = w238 := own_fin SD.2.2.2 R9 own_tz (own_t1 (own_b2 b_v224 b_v229)) eu ed q_r233 q_n236 q_n237 q_w238
                refine own_icF X232 hx hby at_493 (own_ic_ne_p hk240) (pc' := 496) rfl ?_
                refine own_iconst X232 hx hby (v := (1 : Int32)) (by decide) at_496 (pc' := 497) rfl ?_
                refine own_goto X232 hx hby at_497 (by decide) (pc' := 501) (by decide) ?_
                exact own_retZ X232 hx hby Bd.notSynchronized Bd.returns (Or.inr rfl) at_501 (by decide) (by decide) eH232 ⟨rfl, N232⟩
        · as_aux_lemma =>
            refine own_iload X193 hx hby rfl at_185 (pc' := 187) rfl ?_
            refine own_iconst X193 hx hby (v := (1 : Int32)) (by decide) at_187 (pc' := 188) rfl ?_
            refine own_icF X193 hx hby at_188 (by decide) (pc' := 191) rfl ?_
            refine own_aload X193 hx hby rfl rfl at_191 (pc' := 193) rfl ?_
            refine own_iload X193 hx hby rfl at_193 (pc' := 195) rfl ?_
            refine own_iconst X193 hx hby (v := (1 : Int32)) (by decide) at_195 (pc' := 196) rfl ?_
            refine own_iload X193 hx hby rfl at_196 (pc' := 198) rfl ?_
            obtain ⟨v241, q_v241⟩ : ∃ z : UInt64, (FP.i2d n6) = z := ⟨_, rfl⟩
            have D_v241 : Dy v241 n6.toInt 0 := q_v241 ▸ dy_i2d n6
            refine own_i2d X193 hx hby q_v241 at_198 (pc' := 199) rfl ?_
            refine own_ldc2D X193 hx hby hZ hown (hw _ (List.mem_of_getElem? (i := 43) rfl)) at_199 (pc' := 202) rfl ?_
            obtain ⟨v242, q_v242⟩ : ∃ z : UInt64, (FP.ddiv v241 (4616189618054758400 : UInt64)) = z := ⟨_, rfl⟩
            have R_n6 := own_q3r q_n6
            have D_v242 : Dy v242 n6.toInt 2 := own_div4 q_v242 D_v241 R_n6
            have nn_v242 := D_v242.nn
            refine own_ddiv X193 hx hby (by rw [q_v242]; exact nn_v242) q_v242 at_202 (pc' := 203) rfl ?_
            refine own_iconst X193 hx hby (v := (3 : Int32)) (by decide) at_203 (pc' := 204) rfl ?_
            refine own_iload X193 hx hby rfl at_204 (pc' := 206) rfl ?_
            refine own_imul X193 hx hby rfl at_206 (pc' := 207) rfl ?_
            obtain ⟨v243, q_v243⟩ : ∃ z : UInt64, (FP.i2d ((3 : Int32) * n10)) = z := ⟨_, rfl⟩
            have D_v243 : Dy v243 (3 * n10.toInt) 0 := q_v243 ▸ (dy_i2d ((3 : Int32) * n10)).to (own_3k (own_k10 q_n10))
            refine own_i2d X193 hx hby q_v243 at_207 (pc' := 208) rfl ?_
            have LU208g := own_g D_v242 R_n6
            have LU208 := own_up D_v242 R_n6 D_v243 (own_k10 q_n10) own_d0 own_b0
            refine own_virtual X193 hx hby hZ (y := (⟨"com/example/bidfold/bidfold/Branching", "learn", "(IZDD)V"⟩ : MethodName)) (y' := (⟨"com/example/bidfold/bidfold/Branching", "learn", "(IZDD)V"⟩ : MethodName)) (C := "com/example/bidfold/bidfold/Branching") (rest := []) hown (hw _ (List.mem_of_getElem? (i := 26) rfl)) (hw _ (List.mem_of_getElem? (i := 27) rfl)) (notFace_of_selects (args := #[]) (mvT hZ (hw _ (List.mem_of_getElem? (i := 29) rfl)))) (hw _ (List.mem_of_getElem? (i := 29) rfl)) (hw _ (List.mem_of_getElem? (i := 28) rfl)) (hw _ (List.mem_of_getElem? (i := 30) rfl)) (hw _ (List.mem_of_getElem? (i := 2) rfl)) (by decide) (rm311 l Z a0 hw [] b16 v242 v243 b8_17 b10_17 v191 (0 : UInt64) (1 : Int32) (0 : Int32) h193 n0 Z0 F_b16_upFalls F_b16_upCounts V_b8_17 V_b10_17 LU208g.1 LU208g.2 LU208.1 LU208.2.1 LU208.2.2.1 g_b8_17 ne_b16_b8_17 (Ne.symm ne_b8_17_b10_17) g_b10_17 ne_b16_b10_17) eH193 (by rw [hml]; rfl) (a := b16) E_b16 (argsL := [(.int (1 : Int32)), (.int (1 : Int32)), (.double v242), (.double v243)]) rfl (lenOf pd_2 rfl) rfl at_208 (pc' := 211) rfl (by decide) (W := 0) (Nat.le_of_eq rfl) (by decide) (by decide) (by decide) (fun T244 h244 Lc244 v244r X244 eH244 hQ244 => ?_)
            obtain ⟨rfl, Nq244, Kq244, gq244_0, gq244_1⟩ := hQ244
            have N244 := Fr.app N193 Nq244
            replace E_b16 := E_b16.keep Kq244
            replace F_b16_downFalls := F_b16_downFalls.keep Kq244 (ninS ne_b16_b8_17 (ninS ne_b16_b10_17 nin0))
            replace F_b16_downCounts := F_b16_downCounts.keep Kq244 (ninS ne_b16_b8_17 (ninS ne_b16_b10_17 nin0))
            replace F_b16_upFalls := F_b16_upFalls.keep Kq244 (ninS ne_b16_b8_17 (ninS ne_b16_b10_17 nin0))
            replace F_b16_upCounts := F_b16_upCounts.keep Kq244 (ninS ne_b16_b8_17 (ninS ne_b16_b10_17 nin0))
            replace E_b4_17 := E_b4_17.keep Kq244
            replace V_b4_17 := V_b4_17.keep Kq244 (ninS ne_b4_17_b8_17 (ninS ne_b4_17_b10_17 nin0))
            replace E_b6_17 := E_b6_17.keep Kq244
            replace V_b6_17 := V_b6_17.keep Kq244 (ninS ne_b6_17_b8_17 (ninS ne_b6_17_b10_17 nin0))
            replace E_b8_17 := E_b8_17.keep Kq244
            replace E_b10_17 := E_b10_17.keep Kq244
            obtain ⟨v245, q_v245⟩ : ∃ z : UInt64, (FP.dadd (0 : UInt64) (FP.ddiv v243 (FP.dsub (4607182418800017408 : UInt64) v242))) = z := ⟨_, rfl⟩
            have V_b8_17 : Ary tr Z h244 b8_17 .double [(.double v191), (.double v245)] := by rw [← q_v245]; exact gq244_0
            rw [show ((0 : Int32) + (1 : Int32)) = (1 : Int32) from by decide] at gq244_1
            have V_b10_17 := gq244_1
            replace Z0 := Nat.le_trans Z0 Kq244.1
            have S_v245 : Dy v245 (0 + 12 * n10.toInt / (4 - n6.toInt)) 0 := by have q := LU208.2.2.2; rwa [q_v245] at q
            have b_v245 := own_dq (n := 4 - n6.toInt) (k := n10.toInt) (own_r4 R_n6) (own_k10 q_n10)
            refine own_iload X244 hx hby rfl at_211 (pc' := 213) rfl ?_
            refine own_iconst X244 hx hby (v := (2 : Int32)) (by decide) at_213 (pc' := 214) rfl ?_
            refine own_icT X244 hx hby at_214 (by decide) (by decide) (pc' := 237) (by decide) ?_
            rcases own_n3 q_n4 with rfl | rfl | rfl
            · refine own_iload X244 hx hby rfl at_237 (pc' := 239) rfl ?_
              refine own_iconst X244 hx hby (v := (1 : Int32)) (by decide) at_239 (pc' := 240) rfl ?_
              refine own_icT X244 hx hby at_240 (by decide) (by decide) (pc' := 263) (by decide) ?_
              refine own_iload X244 hx hby rfl at_263 (pc' := 265) rfl ?_
              refine own_iconst X244 hx hby (v := (2 : Int32)) (by decide) at_265 (pc' := 266) rfl ?_
              refine own_icT X244 hx hby at_266 (by decide) (by decide) (pc' := 289) (by decide) ?_
              refine own_aload X244 hx hby rfl rfl at_289 (pc' := 291) rfl ?_
              refine own_iload X244 hx hby rfl at_291 (pc' := 293) rfl ?_
              refine own_iload X244 hx hby rfl at_293 (pc' := 295) rfl ?_
              obtain ⟨v246, q_v246⟩ : ∃ z : UInt64, (FP.i2d n5) = z := ⟨_, rfl⟩
              have D_v246 : Dy v246 n5.toInt 0 := q_v246 ▸ dy_i2d n5
              refine own_i2d X244 hx hby q_v246 at_295 (pc' := 296) rfl ?_
              refine own_ldc2D X244 hx hby hZ hown (hw _ (List.mem_of_getElem? (i := 33) rfl)) at_296 (pc' := 299) rfl ?_
              obtain ⟨v247, q_v247⟩ : ∃ z : UInt64, (FP.ddiv v246 (4620693217682128896 : UInt64)) = z := ⟨_, rfl⟩
              have R9 := own_r9 q_n5
              have D_v247 : Dy v247 n5.toInt 3 := own_div8 q_v247 D_v246 R9
              have nn_v247 := D_v247.nn
              refine own_ddiv X244 hx hby (by rw [q_v247]; exact nn_v247) q_v247 at_299 (pc' := 300) rfl ?_
              have MA0 := own_f1 S_v245 (own_b1' b_v245)
              have MA := own_ifp (p := 0 < (1 : Int32)) (by decide) (y := (4607182418800017408 : UInt64)) MA0
              have MB := own_f0 (e := (0 : UInt64))
              have SD := own_sides MA MB (own_t2 (own_b1' b_v245)) own_tz D_v247 R9
              refine own_virtual X244 hx hby hZ (y := (⟨"com/example/bidfold/bidfold/Branching", "leansIn", "(ID)Z"⟩ : MethodName)) (y' := (⟨"com/example/bidfold/bidfold/Branching", "leansIn", "(ID)Z"⟩ : MethodName)) (C := "com/example/bidfold/bidfold/Branching") (rest := []) hown (hw _ (List.mem_of_getElem? (i := 34) rfl)) (hw _ (List.mem_of_getElem? (i := 35) rfl)) (notFace_of_selects (args := #[]) (mvT hZ (hw _ (List.mem_of_getElem? (i := 37) rfl)))) (hw _ (List.mem_of_getElem? (i := 37) rfl)) (hw _ (List.mem_of_getElem? (i := 36) rfl)) (hw _ (List.mem_of_getElem? (i := 38) rfl)) (hw _ (List.mem_of_getElem? (i := 2) rfl)) (by decide) (rm41 l Z a0 hw [] b16 v247 b8_17 b10_17 v191 v245 (1 : Int32) (1 : Int32) b4_17 b6_17 v194 (0 : UInt64) (1 : Int32) (0 : Int32) h244 n0 Z0 F_b16_upFalls F_b16_upCounts V_b8_17 V_b10_17 F_b16_downFalls F_b16_downCounts V_b4_17 V_b6_17 (fun _ => MA0.nn) SD.1 SD.2.1 (fun h => absurd h (by decide)) SD.2.2.1) eH244 (by rw [hml]; rfl) (a := b16) E_b16 (argsL := [(.int (1 : Int32)), (.double v247)]) rfl (lenOf pd_3 rfl) rfl at_300 (pc' := 303) rfl (by decide) (W := 0) (Nat.le_of_eq rfl) (by decide) (by decide) (by decide) (fun T248 h248 Lc248 v248r X248 eH248 hQ248 => ?_)
              obtain ⟨rfl, Nq248, rfl⟩ := hQ248
              have N248 := Fr.app N244 Nq248
              dsimp only [Option.toList, List.cons_append, List.nil_append]
              generalize q_r249 : (if dle (FP.dmul (if 0 < (1 : Int32) then (FP.ddiv v245 (FP.i2d (1 : Int32))) else (4607182418800017408 : UInt64)) (FP.dsub (4607182418800017408 : UInt64) v247)) (FP.dmul (if 0 < (0 : Int32) then (FP.ddiv (0 : UInt64) (FP.i2d (0 : Int32))) else (4607182418800017408 : UInt64)) v247) then (1 : Int32) else (0 : Int32)) = r249
              refine own_istore X248 hx hby (L' := #[.val (.int p0), .val (.int p1), .val (.int p2), .val (.long p3), .second, .val (.int (1 : Int32)), .val (.int (0 : Int32)), .val (.int (1 : Int32)), .val (.int (0 : Int32)), .val (.int n5), .val (.int n6), .val (.int n7), .val (.int n8), .val (.int n9), .val (.int n10), .val (.int n11), .val (.int n12), .val (.int n13), .val (.int n14), .val (.int n15), .val (.ref b16), .val (.int r249), .unset, .unset, .unset, .unset, .unset, .unset, .unset, .unset, .unset]) rfl at_303 (pc' := 305) rfl ?_
              refine own_lconst X248 hx hby (v := (0 : Int64)) (by decide) at_305 (pc' := 306) rfl ?_
              refine own_lstore X248 hx hby (L' := #[.val (.int p0), .val (.int p1), .val (.int p2), .val (.long p3), .second, .val (.int (1 : Int32)), .val (.int (0 : Int32)), .val (.int (1 : Int32)), .val (.int (0 : Int32)), .val (.int n5), .val (.int n6), .val (.int n7), .val (.int n8), .val (.int n9), .val (.int n10), .val (.int n11), .val (.int n12), .val (.int n13), .val (.int n14), .val (.int n15), .val (.ref b16), .val (.int r249), .val (.long (0 : Int64)), .second, .unset, .unset, .unset, .unset, .unset, .unset, .unset]) rfl at_306 (pc' := 308) rfl ?_
              refine own_iload X248 hx hby rfl at_308 (pc' := 310) rfl ?_
              refine own_iconst X248 hx hby (v := (1 : Int32)) (by decide) at_310 (pc' := 311) rfl ?_
              refine own_icF X248 hx hby at_311 (by decide) (pc' := 314) rfl ?_
              refine own_lload X248 hx hby rfl at_314 (pc' := 316) rfl ?_
              refine own_ldc2L X248 hx hby hZ hown (hw _ (List.mem_of_getElem? (i := 44) rfl)) at_316 (pc' := 319) rfl ?_
              refine own_iload X248 hx hby rfl at_319 (pc' := 321) rfl ?_
              refine own_i2l X248 hx hby rfl at_321 (pc' := 322) rfl ?_
              refine own_lmul X248 hx hby rfl at_322 (pc' := 323) rfl ?_
              refine own_iconst X248 hx hby (v := (4 : Int32)) (by decide) at_323 (pc' := 324) rfl ?_
              refine own_iload X248 hx hby rfl at_324 (pc' := 326) rfl ?_
              refine own_isub X248 hx hby rfl at_326 (pc' := 327) rfl ?_
              refine own_i2l X248 hx hby rfl at_327 (pc' := 328) rfl ?_
              refine own_ldiv X248 hx hby (own_nzL (own_4q R_n6) (own_4qd R_n6).1) rfl at_328 (pc' := 329) rfl ?_
              refine own_ladd X248 hx hby rfl at_329 (pc' := 330) rfl ?_
              generalize q_n250 : ((0 : Int64) + (((12 : Int64) * (n10.toInt64)) / (((4 : Int32) - n6).toInt64))) = n250
              refine own_lstore X248 hx hby (L' := #[.val (.int p0), .val (.int p1), .val (.int p2), .val (.long p3), .second, .val (.int (1 : Int32)), .val (.int (0 : Int32)), .val (.int (1 : Int32)), .val (.int (0 : Int32)), .val (.int n5), .val (.int n6), .val (.int n7), .val (.int n8), .val (.int n9), .val (.int n10), .val (.int n11), .val (.int n12), .val (.int n13), .val (.int n14), .val (.int n15), .val (.ref b16), .val (.int r249), .val (.long n250), .second, .unset, .unset, .unset, .unset, .unset, .unset, .unset]) rfl at_330 (pc' := 332) rfl ?_
              refine own_iload X248 hx hby rfl at_332 (pc' := 334) rfl ?_
              refine own_iconst X248 hx hby (v := (2 : Int32)) (by decide) at_334 (pc' := 335) rfl ?_
              refine own_icT X248 hx hby at_335 (by decide) (by decide) (pc' := 356) (by decide) ?_
              refine own_lconst X248 hx hby (v := (0 : Int64)) (by decide) at_356 (pc' := 357) rfl ?_
              refine own_lstore X248 hx hby (L' := #[.val (.int p0), .val (.int p1), .val (.int p2), .val (.long p3), .second, .val (.int (1 : Int32)), .val (.int (0 : Int32)), .val (.int (1 : Int32)), .val (.int (0 : Int32)), .val (.int n5), .val (.int n6), .val (.int n7), .val (.int n8), .val (.int n9), .val (.int n10), .val (.int n11), .val (.int n12), .val (.int n13), .val (.int n14), .val (.int n15), .val (.ref b16), .val (.int r249), .val (.long n250), .second, .val (.long (0 : Int64)), .second, .unset, .unset, .unset, .unset, .unset]) rfl at_357 (pc' := 359) rfl ?_
              refine own_iload X248 hx hby rfl at_359 (pc' := 361) rfl ?_
              refine own_iconst X248 hx hby (v := (1 : Int32)) (by decide) at_361 (pc' := 362) rfl ?_
              refine own_icT X248 hx hby at_362 (by decide) (by decide) (pc' := 381) (by decide) ?_
              refine own_iload X248 hx hby rfl at_381 (pc' := 383) rfl ?_
              refine own_iconst X248 hx hby (v := (2 : Int32)) (by decide) at_383 (pc' := 384) rfl ?_
              refine own_icT X248 hx hby at_384 (by decide) (by decide) (pc' := 403) (by decide) ?_
              refine own_iload X248 hx hby rfl at_403 (pc' := 405) rfl ?_
              refine own_ifT X248 hx hby at_405 (by decide) (by decide) (pc' := 414) (by decide) ?_
              refine own_iload X248 hx hby rfl at_414 (pc' := 416) rfl ?_
              refine own_iconst X248 hx hby (v := (1 : Int32)) (by decide) at_416 (pc' := 417) rfl ?_
              refine own_icF X248 hx hby at_417 (by decide) (pc' := 420) rfl ?_
              refine own_ldc2L X248 hx hby hZ hown (hw _ (List.mem_of_getElem? (i := 42) rfl)) at_420 (pc' := 423) rfl ?_
              refine own_lload X248 hx hby rfl at_423 (pc' := 425) rfl ?_
              refine own_lmul X248 hx hby rfl at_425 (pc' := 426) rfl ?_
              refine own_goto X248 hx hby at_426 (by decide) (pc' := 431) (by decide) ?_
              generalize q_n251 : ((2 : Int64) * n250) = n251
              refine own_lstore X248 hx hby (L' := #[.val (.int p0), .val (.int p1), .val (.int p2), .val (.long p3), .second, .val (.int (1 : Int32)), .val (.int (0 : Int32)), .val (.int (1 : Int32)), .val (.int (0 : Int32)), .val (.int n5), .val (.int n6), .val (.int n7), .val (.int n8), .val (.int n9), .val (.int n10), .val (.int n11), .val (.int n12), .val (.int n13), .val (.int n14), .val (.int n15), .val (.ref b16), .val (.int r249), .val (.long n250), .second, .val (.long (0 : Int64)), .second, .val (.long n251), .second, .unset, .unset, .unset]) rfl at_431 (pc' := 433) rfl ?_
              refine own_iload X248 hx hby rfl at_433 (pc' := 435) rfl ?_
              refine own_ifF X248 hx hby at_435 (by decide) (pc' := 438) rfl ?_
              refine own_ldc2L X248 hx hby hZ hown (hw _ (List.mem_of_getElem? (i := 42) rfl)) at_438 (pc' := 441) rfl ?_
              as_aux_lemma =>
                refine own_goto X248 hx hby at_441 (by decide) (pc' := 461) (by decide) ?_
                refine own_lstore X248 hx hby (L' := #[.val (.int p0), .val (.int p1), .val (.int p2), .val (.long p3), .second, .val (.int (1 : Int32)), .val (.int (0 : Int32)), .val (.int (1 : Int32)), .val (.int (0 : Int32)), .val (.int n5), .val (.int n6), .val (.int n7), .val (.int n8), .val (.int n9), .val (.int n10), .val (.int n11), .val (.int n12), .val (.int n13), .val (.int n14), .val (.int n15), .val (.ref b16), .val (.int r249), .val (.long n250), .second, .val (.long (0 : Int64)), .second, .val (.long n251), .second, .val (.long (2 : Int64)), .second, .unset]) rfl at_461 (pc' := 463) rfl ?_
                have tw_n250 := own_tw (k := n10) (own_4q R_n6) (own_4qd R_n6) (own_k10 q_n10)
                have bq_n250 := own_dq (n := (4 - n6.toInt)) (k := n10.toInt) (own_4qd R_n6) (own_k10 q_n10)
                have et_n250 : n250.toInt = (0 + 12 * n10.toInt / (4 - n6.toInt)) := own_ls q_n250 own_e0 tw_n250 (own_w3 own_b0) bq_n250
                have eu : n251.toInt = 2 * (0 + 12 * n10.toInt / (4 - n6.toInt)) := own_l2 q_n251 et_n250 (own_b1' bq_n250)
                have ed := own_e2
                refine own_lload X248 hx hby rfl at_463 (pc' := 465) rfl ?_
                refine own_bipush X248 hx hby (v := (8 : Int32)) (by decide) at_465 (pc' := 467) rfl ?_
                refine own_iload X248 hx hby rfl at_467 (pc' := 469) rfl ?_
                refine own_isub X248 hx hby rfl at_469 (pc' := 470) rfl ?_
                refine own_i2l X248 hx hby rfl at_470 (pc' := 471) rfl ?_
                refine own_lmul X248 hx hby rfl at_471 (pc' := 472) rfl ?_
                refine own_lload X248 hx hby rfl at_472 (pc' := 474) rfl ?_
                refine own_iload X248 hx hby rfl at_474 (pc' := 476) rfl ?_
                refine own_i2l X248 hx hby rfl at_476 (pc' := 477) rfl ?_
                refine own_lmul X248 hx hby rfl at_477 (pc' := 478) rfl ?_
                generalize q_n252 : (n251 * (((8 : Int32) - n5).toInt64)) = n252
                generalize q_n253 : ((2 : Int64) * (n5.toInt64)) = n253
                refine own_lcmp X248 hx hby rfl at_478 (pc' := 479) rfl ?_
                obtain ⟨w254, q_w254⟩ : ∃ z : Int32, (if n253 < n252 then (0 : Int32) else (1 : Int32)) = z := ⟨_, rfl⟩
                refine own_join (S' := T248.setTop (mkF m 487 #[.val (.int p0), .val (.int p1), .val (.int p2), .val (.long p3), .second, .val (.int (1 : Int32)), .val (.int (0 : Int32)), .val (.int (1 : Int32)), .val (.int (0 : Int32)), .val (.int n5), .val (.int n6), .val (.int n7), .val (.int n8), .val (.int n9), .val (.int n10), .val (.int n11), .val (.int n12), .val (.int n13), .val (.int n14), .val (.int n15), .val (.ref b16), .val (.int r249), .val (.long n250), .second, .val (.long (0 : Int64)), .second, .val (.long n251), .second, .val (.long (2 : Int64)), .second, .unset] [(.int w254)])) (fun F' k' => ?_) ?_
                · rw [← q_w254] at k'
                  by_cases hc255 : n253 < n252
                  · simp only [if_pos hc255] at k'
                    refine own_ifT X248 hx hby at_479 (own_lc_gt_p hc255) (by decide) (pc' := 486) (by decide) ?_
                    refine own_iconst X248 hx hby (v := (0 : Int32)) (by decide) at_486 (pc' := 487) rfl ?_
                    exact k'
                  · simp only [if_neg hc255] at k'
                    refine own_ifF X248 hx hby at_479 (own_lc_gt_n hc255) (pc' := 482) rfl ?_
                    refine own_iconst X248 hx hby (v := (1 : Int32)) (by decide) at_482 (pc' := 483) rfl ?_
                    refine own_goto X248 hx hby at_483 (by decide) (pc' := 487) (by decide) ?_
                    exact k'
                refine own_istore X248 hx hby (L' := #[.val (.int p0), .val (.int p1), .val (.int p2), .val (.long p3), .second, .val (.int (1 : Int32)), .val (.int (0 : Int32)), .val (.int (1 : Int32)), .val (.int (0 : Int32)), .val (.int n5), .val (.int n6), .val (.int n7), .val (.int n8), .val (.int n9), .val (.int n10), .val (.int n11), .val (.int n12), .val (.int n13), .val (.int n14), .val (.int n15), .val (.ref b16), .val (.int r249), .val (.long n250), .second, .val (.long (0 : Int64)), .second, .val (.long n251), .second, .val (.long (2 : Int64)), .second, .val (.int w254)]) rfl at_487 (pc' := 489) rfl ?_
                refine own_iload X248 hx hby rfl at_489 (pc' := 491) rfl ?_
                refine own_iload X248 hx hby rfl at_491 (pc' := 493) rfl ?_
                have hk256 : r249 = w254 := own_fin SD.2.2.2 R9 (own_t2 (own_b1' b_v245)) own_tz eu ed q_r249 q_n252 q_n253 q_w254
                refine own_icF X248 hx hby at_493 (own_ic_ne_p hk256) (pc' := 496) rfl ?_
                refine own_iconst X248 hx hby (v := (1 : Int32)) (by decide) at_496 (pc' := 497) rfl ?_
                refine own_goto X248 hx hby at_497 (by decide) (pc' := 501) (by decide) ?_
                exact own_retZ X248 hx hby Bd.notSynchronized Bd.returns (Or.inr rfl) at_501 (by decide) (by decide) eH248 ⟨rfl, N248⟩
            · as_aux_lemma =>
                refine own_iload X244 hx hby rfl at_237 (pc' := 239) rfl ?_
                refine own_iconst X244 hx hby (v := (1 : Int32)) (by decide) at_239 (pc' := 240) rfl ?_
                refine own_icF X244 hx hby at_240 (by decide) (pc' := 243) rfl ?_
                refine own_aload X244 hx hby rfl rfl at_243 (pc' := 245) rfl ?_
                refine own_iload X244 hx hby rfl at_245 (pc' := 247) rfl ?_
                refine own_iconst X244 hx hby (v := (0 : Int32)) (by decide) at_247 (pc' := 248) rfl ?_
                refine own_iload X244 hx hby rfl at_248 (pc' := 250) rfl ?_
                obtain ⟨v257, q_v257⟩ : ∃ z : UInt64, (FP.i2d n8) = z := ⟨_, rfl⟩
                have D_v257 : Dy v257 n8.toInt 0 := q_v257 ▸ dy_i2d n8
                refine own_i2d X244 hx hby q_v257 at_250 (pc' := 251) rfl ?_
                refine own_ldc2D X244 hx hby hZ hown (hw _ (List.mem_of_getElem? (i := 43) rfl)) at_251 (pc' := 254) rfl ?_
                obtain ⟨v258, q_v258⟩ : ∃ z : UInt64, (FP.ddiv v257 (4616189618054758400 : UInt64)) = z := ⟨_, rfl⟩
                have R_n8 := own_q3r q_n8
                have D_v258 : Dy v258 n8.toInt 2 := own_div4 q_v258 D_v257 R_n8
                have nn_v258 := D_v258.nn
                refine own_ddiv X244 hx hby (by rw [q_v258]; exact nn_v258) q_v258 at_254 (pc' := 255) rfl ?_
                refine own_iconst X244 hx hby (v := (3 : Int32)) (by decide) at_255 (pc' := 256) rfl ?_
                refine own_iload X244 hx hby rfl at_256 (pc' := 258) rfl ?_
                refine own_imul X244 hx hby rfl at_258 (pc' := 259) rfl ?_
                obtain ⟨v259, q_v259⟩ : ∃ z : UInt64, (FP.i2d ((3 : Int32) * n12)) = z := ⟨_, rfl⟩
                have D_v259 : Dy v259 (3 * n12.toInt) 0 := q_v259 ▸ (dy_i2d ((3 : Int32) * n12)).to (own_3k (own_k10 q_n12))
                refine own_i2d X244 hx hby q_v259 at_259 (pc' := 260) rfl ?_
                have LU260g := own_g D_v258 R_n8
                have LU260 := own_dn D_v258 R_n8 D_v259 (own_k10 q_n12) own_d0 own_b0
                refine own_virtual X244 hx hby hZ (y := (⟨"com/example/bidfold/bidfold/Branching", "learn", "(IZDD)V"⟩ : MethodName)) (y' := (⟨"com/example/bidfold/bidfold/Branching", "learn", "(IZDD)V"⟩ : MethodName)) (C := "com/example/bidfold/bidfold/Branching") (rest := []) hown (hw _ (List.mem_of_getElem? (i := 26) rfl)) (hw _ (List.mem_of_getElem? (i := 27) rfl)) (notFace_of_selects (args := #[]) (mvT hZ (hw _ (List.mem_of_getElem? (i := 29) rfl)))) (hw _ (List.mem_of_getElem? (i := 29) rfl)) (hw _ (List.mem_of_getElem? (i := 28) rfl)) (hw _ (List.mem_of_getElem? (i := 30) rfl)) (hw _ (List.mem_of_getElem? (i := 2) rfl)) (by decide) (rm310 l Z a0 hw [] b16 v258 v259 b4_17 b6_17 v194 (0 : UInt64) (1 : Int32) (0 : Int32) h244 n0 Z0 F_b16_downFalls F_b16_downCounts V_b4_17 V_b6_17 LU260g.1 LU260g.2 LU260.1 LU260.2.1 g_b4_17 ne_b16_b4_17 (Ne.symm ne_b4_17_b6_17) g_b6_17 ne_b16_b6_17) eH244 (by rw [hml]; rfl) (a := b16) E_b16 (argsL := [(.int (1 : Int32)), (.int (0 : Int32)), (.double v258), (.double v259)]) rfl (lenOf pd_2 rfl) rfl at_260 (pc' := 263) rfl (by decide) (W := 0) (Nat.le_of_eq rfl) (by decide) (by decide) (by decide) (fun T260 h260 Lc260 v260r X260 eH260 hQ260 => ?_)
                obtain ⟨rfl, Nq260, Kq260, gq260_0, gq260_1⟩ := hQ260
                have N260 := Fr.app N244 Nq260
                replace E_b16 := E_b16.keep Kq260
                replace F_b16_downFalls := F_b16_downFalls.keep Kq260 (ninS ne_b16_b4_17 (ninS ne_b16_b6_17 nin0))
                replace F_b16_downCounts := F_b16_downCounts.keep Kq260 (ninS ne_b16_b4_17 (ninS ne_b16_b6_17 nin0))
                replace F_b16_upFalls := F_b16_upFalls.keep Kq260 (ninS ne_b16_b4_17 (ninS ne_b16_b6_17 nin0))
                replace F_b16_upCounts := F_b16_upCounts.keep Kq260 (ninS ne_b16_b4_17 (ninS ne_b16_b6_17 nin0))
                replace E_b4_17 := E_b4_17.keep Kq260
                replace E_b6_17 := E_b6_17.keep Kq260
                replace E_b8_17 := E_b8_17.keep Kq260
                replace V_b8_17 := V_b8_17.keep Kq260 (ninS (Ne.symm ne_b4_17_b8_17) (ninS (Ne.symm ne_b6_17_b8_17) nin0))
                replace E_b10_17 := E_b10_17.keep Kq260
                replace V_b10_17 := V_b10_17.keep Kq260 (ninS (Ne.symm ne_b4_17_b10_17) (ninS (Ne.symm ne_b6_17_b10_17) nin0))
                obtain ⟨v261, q_v261⟩ : ∃ z : UInt64, (FP.dadd (0 : UInt64) (FP.ddiv v259 v258)) = z := ⟨_, rfl⟩
                have V_b4_17 : Ary tr Z h260 b4_17 .double [(.double v194), (.double v261)] := by rw [← q_v261]; exact gq260_0
                rw [show ((0 : Int32) + (1 : Int32)) = (1 : Int32) from by decide] at gq260_1
                have V_b6_17 := gq260_1
                replace Z0 := Nat.le_trans Z0 Kq260.1
                have S_v261 : Dy v261 (0 + 12 * n12.toInt / n8.toInt) 0 := by have q := LU260.2.2; rwa [q_v261] at q
                have b_v261 := own_dq (n := n8.toInt) (k := n12.toInt) R_n8 (own_k10 q_n12)
                refine own_iload X260 hx hby rfl at_263 (pc' := 265) rfl ?_
                refine own_iconst X260 hx hby (v := (2 : Int32)) (by decide) at_265 (pc' := 266) rfl ?_
                refine own_icT X260 hx hby at_266 (by decide) (by decide) (pc' := 289) (by decide) ?_
                refine own_aload X260 hx hby rfl rfl at_289 (pc' := 291) rfl ?_
                refine own_iload X260 hx hby rfl at_291 (pc' := 293) rfl ?_
                refine own_iload X260 hx hby rfl at_293 (pc' := 295) rfl ?_
                obtain ⟨v262, q_v262⟩ : ∃ z : UInt64, (FP.i2d n5) = z := ⟨_, rfl⟩
                have D_v262 : Dy v262 n5.toInt 0 := q_v262 ▸ dy_i2d n5
                refine own_i2d X260 hx hby q_v262 at_295 (pc' := 296) rfl ?_
                refine own_ldc2D X260 hx hby hZ hown (hw _ (List.mem_of_getElem? (i := 33) rfl)) at_296 (pc' := 299) rfl ?_
                obtain ⟨v263, q_v263⟩ : ∃ z : UInt64, (FP.ddiv v262 (4620693217682128896 : UInt64)) = z := ⟨_, rfl⟩
                have R9 := own_r9 q_n5
                have D_v263 : Dy v263 n5.toInt 3 := own_div8 q_v263 D_v262 R9
                have nn_v263 := D_v263.nn
                refine own_ddiv X260 hx hby (by rw [q_v263]; exact nn_v263) q_v263 at_299 (pc' := 300) rfl ?_
                have MA0 := own_f1 S_v245 (own_b1' b_v245)
                have MA := own_ifp (p := 0 < (1 : Int32)) (by decide) (y := (4607182418800017408 : UInt64)) MA0
                have MB0 := own_f1 S_v261 (own_b1' b_v261)
                have MB := own_ifp (p := 0 < (1 : Int32)) (by decide) (y := (4607182418800017408 : UInt64)) MB0
                have SD := own_sides MA MB (own_t2 (own_b1' b_v245)) (own_t2 (own_b1' b_v261)) D_v263 R9
                refine own_virtual X260 hx hby hZ (y := (⟨"com/example/bidfold/bidfold/Branching", "leansIn", "(ID)Z"⟩ : MethodName)) (y' := (⟨"com/example/bidfold/bidfold/Branching", "leansIn", "(ID)Z"⟩ : MethodName)) (C := "com/example/bidfold/bidfold/Branching") (rest := []) hown (hw _ (List.mem_of_getElem? (i := 34) rfl)) (hw _ (List.mem_of_getElem? (i := 35) rfl)) (notFace_of_selects (args := #[]) (mvT hZ (hw _ (List.mem_of_getElem? (i := 37) rfl)))) (hw _ (List.mem_of_getElem? (i := 37) rfl)) (hw _ (List.mem_of_getElem? (i := 36) rfl)) (hw _ (List.mem_of_getElem? (i := 38) rfl)) (hw _ (List.mem_of_getElem? (i := 2) rfl)) (by decide) (rm41 l Z a0 hw [] b16 v263 b8_17 b10_17 v191 v245 (1 : Int32) (1 : Int32) b4_17 b6_17 v194 v261 (1 : Int32) (1 : Int32) h260 n0 Z0 F_b16_upFalls F_b16_upCounts V_b8_17 V_b10_17 F_b16_downFalls F_b16_downCounts V_b4_17 V_b6_17 (fun _ => MA0.nn) SD.1 SD.2.1 (fun _ => MB0.nn) SD.2.2.1) eH260 (by rw [hml]; rfl) (a := b16) E_b16 (argsL := [(.int (1 : Int32)), (.double v263)]) rfl (lenOf pd_3 rfl) rfl at_300 (pc' := 303) rfl (by decide) (W := 0) (Nat.le_of_eq rfl) (by decide) (by decide) (by decide) (fun T264 h264 Lc264 v264r X264 eH264 hQ264 => ?_)
                obtain ⟨rfl, Nq264, rfl⟩ := hQ264
                have N264 := Fr.app N260 Nq264
                dsimp only [Option.toList, List.cons_append, List.nil_append]
                generalize q_r265 : (if dle (FP.dmul (if 0 < (1 : Int32) then (FP.ddiv v245 (FP.i2d (1 : Int32))) else (4607182418800017408 : UInt64)) (FP.dsub (4607182418800017408 : UInt64) v263)) (FP.dmul (if 0 < (1 : Int32) then (FP.ddiv v261 (FP.i2d (1 : Int32))) else (4607182418800017408 : UInt64)) v263) then (1 : Int32) else (0 : Int32)) = r265
                refine own_istore X264 hx hby (L' := #[.val (.int p0), .val (.int p1), .val (.int p2), .val (.long p3), .second, .val (.int (1 : Int32)), .val (.int (0 : Int32)), .val (.int (1 : Int32)), .val (.int (1 : Int32)), .val (.int n5), .val (.int n6), .val (.int n7), .val (.int n8), .val (.int n9), .val (.int n10), .val (.int n11), .val (.int n12), .val (.int n13), .val (.int n14), .val (.int n15), .val (.ref b16), .val (.int r265), .unset, .unset, .unset, .unset, .unset, .unset, .unset, .unset, .unset]) rfl at_303 (pc' := 305) rfl ?_
                refine own_lconst X264 hx hby (v := (0 : Int64)) (by decide) at_305 (pc' := 306) rfl ?_
                refine own_lstore X264 hx hby (L' := #[.val (.int p0), .val (.int p1), .val (.int p2), .val (.long p3), .second, .val (.int (1 : Int32)), .val (.int (0 : Int32)), .val (.int (1 : Int32)), .val (.int (1 : Int32)), .val (.int n5), .val (.int n6), .val (.int n7), .val (.int n8), .val (.int n9), .val (.int n10), .val (.int n11), .val (.int n12), .val (.int n13), .val (.int n14), .val (.int n15), .val (.ref b16), .val (.int r265), .val (.long (0 : Int64)), .second, .unset, .unset, .unset, .unset, .unset, .unset, .unset]) rfl at_306 (pc' := 308) rfl ?_
                refine own_iload X264 hx hby rfl at_308 (pc' := 310) rfl ?_
                refine own_iconst X264 hx hby (v := (1 : Int32)) (by decide) at_310 (pc' := 311) rfl ?_
                refine own_icF X264 hx hby at_311 (by decide) (pc' := 314) rfl ?_
                refine own_lload X264 hx hby rfl at_314 (pc' := 316) rfl ?_
                refine own_ldc2L X264 hx hby hZ hown (hw _ (List.mem_of_getElem? (i := 44) rfl)) at_316 (pc' := 319) rfl ?_
                refine own_iload X264 hx hby rfl at_319 (pc' := 321) rfl ?_
                refine own_i2l X264 hx hby rfl at_321 (pc' := 322) rfl ?_
                refine own_lmul X264 hx hby rfl at_322 (pc' := 323) rfl ?_
                refine own_iconst X264 hx hby (v := (4 : Int32)) (by decide) at_323 (pc' := 324) rfl ?_
                refine own_iload X264 hx hby rfl at_324 (pc' := 326) rfl ?_
                refine own_isub X264 hx hby rfl at_326 (pc' := 327) rfl ?_
                refine own_i2l X264 hx hby rfl at_327 (pc' := 328) rfl ?_
                refine own_ldiv X264 hx hby (own_nzL (own_4q R_n6) (own_4qd R_n6).1) rfl at_328 (pc' := 329) rfl ?_
                refine own_ladd X264 hx hby rfl at_329 (pc' := 330) rfl ?_
                generalize q_n266 : ((0 : Int64) + (((12 : Int64) * (n10.toInt64)) / (((4 : Int32) - n6).toInt64))) = n266
                refine own_lstore X264 hx hby (L' := #[.val (.int p0), .val (.int p1), .val (.int p2), .val (.long p3), .second, .val (.int (1 : Int32)), .val (.int (0 : Int32)), .val (.int (1 : Int32)), .val (.int (1 : Int32)), .val (.int n5), .val (.int n6), .val (.int n7), .val (.int n8), .val (.int n9), .val (.int n10), .val (.int n11), .val (.int n12), .val (.int n13), .val (.int n14), .val (.int n15), .val (.ref b16), .val (.int r265), .val (.long n266), .second, .unset, .unset, .unset, .unset, .unset, .unset, .unset]) rfl at_330 (pc' := 332) rfl ?_
                refine own_iload X264 hx hby rfl at_332 (pc' := 334) rfl ?_
                refine own_iconst X264 hx hby (v := (2 : Int32)) (by decide) at_334 (pc' := 335) rfl ?_
                refine own_icT X264 hx hby at_335 (by decide) (by decide) (pc' := 356) (by decide) ?_
                refine own_lconst X264 hx hby (v := (0 : Int64)) (by decide) at_356 (pc' := 357) rfl ?_
                refine own_lstore X264 hx hby (L' := #[.val (.int p0), .val (.int p1), .val (.int p2), .val (.long p3), .second, .val (.int (1 : Int32)), .val (.int (0 : Int32)), .val (.int (1 : Int32)), .val (.int (1 : Int32)), .val (.int n5), .val (.int n6), .val (.int n7), .val (.int n8), .val (.int n9), .val (.int n10), .val (.int n11), .val (.int n12), .val (.int n13), .val (.int n14), .val (.int n15), .val (.ref b16), .val (.int r265), .val (.long n266), .second, .val (.long (0 : Int64)), .second, .unset, .unset, .unset, .unset, .unset]) rfl at_357 (pc' := 359) rfl ?_
                refine own_iload X264 hx hby rfl at_359 (pc' := 361) rfl ?_
                refine own_iconst X264 hx hby (v := (1 : Int32)) (by decide) at_361 (pc' := 362) rfl ?_
                refine own_icF X264 hx hby at_362 (by decide) (pc' := 365) rfl ?_
                refine own_lload X264 hx hby rfl at_365 (pc' := 367) rfl ?_
                refine own_ldc2L X264 hx hby hZ hown (hw _ (List.mem_of_getElem? (i := 44) rfl)) at_367 (pc' := 370) rfl ?_
                refine own_iload X264 hx hby rfl at_370 (pc' := 372) rfl ?_
                refine own_i2l X264 hx hby rfl at_372 (pc' := 373) rfl ?_
                refine own_lmul X264 hx hby rfl at_373 (pc' := 374) rfl ?_
                refine own_iload X264 hx hby rfl at_374 (pc' := 376) rfl ?_
                refine own_i2l X264 hx hby rfl at_376 (pc' := 377) rfl ?_
                refine own_ldiv X264 hx hby (own_nzL (c_i2l n8) R_n8.1) rfl at_377 (pc' := 378) rfl ?_
                refine own_ladd X264 hx hby rfl at_378 (pc' := 379) rfl ?_
                generalize q_n267 : ((0 : Int64) + (((12 : Int64) * (n12.toInt64)) / (n8.toInt64))) = n267
                refine own_lstore X264 hx hby (L' := #[.val (.int p0), .val (.int p1), .val (.int p2), .val (.long p3), .second, .val (.int (1 : Int32)), .val (.int (0 : Int32)), .val (.int (1 : Int32)), .val (.int (1 : Int32)), .val (.int n5), .val (.int n6), .val (.int n7), .val (.int n8), .val (.int n9), .val (.int n10), .val (.int n11), .val (.int n12), .val (.int n13), .val (.int n14), .val (.int n15), .val (.ref b16), .val (.int r265), .val (.long n266), .second, .val (.long n267), .second, .unset, .unset, .unset, .unset, .unset]) rfl at_379 (pc' := 381) rfl ?_
                refine own_iload X264 hx hby rfl at_381 (pc' := 383) rfl ?_
                refine own_iconst X264 hx hby (v := (2 : Int32)) (by decide) at_383 (pc' := 384) rfl ?_
                refine own_icT X264 hx hby at_384 (by decide) (by decide) (pc' := 403) (by decide) ?_
                refine own_iload X264 hx hby rfl at_403 (pc' := 405) rfl ?_
                refine own_ifT X264 hx hby at_405 (by decide) (by decide) (pc' := 414) (by decide) ?_
                refine own_iload X264 hx hby rfl at_414 (pc' := 416) rfl ?_
                refine own_iconst X264 hx hby (v := (1 : Int32)) (by decide) at_416 (pc' := 417) rfl ?_
                refine own_icF X264 hx hby at_417 (by decide) (pc' := 420) rfl ?_
                refine own_ldc2L X264 hx hby hZ hown (hw _ (List.mem_of_getElem? (i := 42) rfl)) at_420 (pc' := 423) rfl ?_
                refine own_lload X264 hx hby rfl at_423 (pc' := 425) rfl ?_
                refine own_lmul X264 hx hby rfl at_425 (pc' := 426) rfl ?_
                refine own_goto X264 hx hby at_426 (by decide) (pc' := 431) (by decide) ?_
                generalize q_n268 : ((2 : Int64) * n266) = n268
                refine own_lstore X264 hx hby (L' := #[.val (.int p0), .val (.int p1), .val (.int p2), .val (.long p3), .second, .val (.int (1 : Int32)), .val (.int (0 : Int32)), .val (.int (1 : Int32)), .val (.int (1 : Int32)), .val (.int n5), .val (.int n6), .val (.int n7), .val (.int n8), .val (.int n9), .val (.int n10), .val (.int n11), .val (.int n12), .val (.int n13), .val (.int n14), .val (.int n15), .val (.ref b16), .val (.int r265), .val (.long n266), .second, .val (.long n267), .second, .val (.long n268), .second, .unset, .unset, .unset]) rfl at_431 (pc' := 433) rfl ?_
                as_aux_lemma =>
                  refine own_iload X264 hx hby rfl at_433 (pc' := 435) rfl ?_
                  refine own_ifT X264 hx hby at_435 (by decide) (by decide) (pc' := 444) (by decide) ?_
                  refine own_iload X264 hx hby rfl at_444 (pc' := 446) rfl ?_
                  refine own_iconst X264 hx hby (v := (1 : Int32)) (by decide) at_446 (pc' := 447) rfl ?_
                  refine own_icF X264 hx hby at_447 (by decide) (pc' := 450) rfl ?_
                  refine own_ldc2L X264 hx hby hZ hown (hw _ (List.mem_of_getElem? (i := 42) rfl)) at_450 (pc' := 453) rfl ?_
                  refine own_lload X264 hx hby rfl at_453 (pc' := 455) rfl ?_
                  refine own_lmul X264 hx hby rfl at_455 (pc' := 456) rfl ?_
                  refine own_goto X264 hx hby at_456 (by decide) (pc' := 461) (by decide) ?_
                  generalize q_n269 : ((2 : Int64) * n267) = n269
                  refine own_lstore X264 hx hby (L' := #[.val (.int p0), .val (.int p1), .val (.int p2), .val (.long p3), .second, .val (.int (1 : Int32)), .val (.int (0 : Int32)), .val (.int (1 : Int32)), .val (.int (1 : Int32)), .val (.int n5), .val (.int n6), .val (.int n7), .val (.int n8), .val (.int n9), .val (.int n10), .val (.int n11), .val (.int n12), .val (.int n13), .val (.int n14), .val (.int n15), .val (.ref b16), .val (.int r265), .val (.long n266), .second, .val (.long n267), .second, .val (.long n268), .second, .val (.long n269), .second, .unset]) rfl at_461 (pc' := 463) rfl ?_
                  have tw_n266 := own_tw (k := n10) (own_4q R_n6) (own_4qd R_n6) (own_k10 q_n10)
                  have bq_n266 := own_dq (n := (4 - n6.toInt)) (k := n10.toInt) (own_4qd R_n6) (own_k10 q_n10)
                  have et_n266 : n266.toInt = (0 + 12 * n10.toInt / (4 - n6.toInt)) := own_ls q_n266 own_e0 tw_n266 (own_w3 own_b0) bq_n266
                  have eu : n268.toInt = 2 * (0 + 12 * n10.toInt / (4 - n6.toInt)) := own_l2 q_n268 et_n266 (own_b1' bq_n266)
                  have tw_n267 := own_tw (k := n12) (c_i2l n8) R_n8 (own_k10 q_n12)
                  have bq_n267 := own_dq (n := n8.toInt) (k := n12.toInt) R_n8 (own_k10 q_n12)
                  have et_n267 : n267.toInt = (0 + 12 * n12.toInt / n8.toInt) := own_ls q_n267 own_e0 tw_n267 (own_w3 own_b0) bq_n267
                  have ed : n269.toInt = 2 * (0 + 12 * n12.toInt / n8.toInt) := own_l2 q_n269 et_n267 (own_b1' bq_n267)
                  refine own_lload X264 hx hby rfl at_463 (pc' := 465) rfl ?_
                  refine own_bipush X264 hx hby (v := (8 : Int32)) (by decide) at_465 (pc' := 467) rfl ?_
                  refine own_iload X264 hx hby rfl at_467 (pc' := 469) rfl ?_
                  refine own_isub X264 hx hby rfl at_469 (pc' := 470) rfl ?_
                  refine own_i2l X264 hx hby rfl at_470 (pc' := 471) rfl ?_
                  refine own_lmul X264 hx hby rfl at_471 (pc' := 472) rfl ?_
                  refine own_lload X264 hx hby rfl at_472 (pc' := 474) rfl ?_
                  refine own_iload X264 hx hby rfl at_474 (pc' := 476) rfl ?_
                  refine own_i2l X264 hx hby rfl at_476 (pc' := 477) rfl ?_
                  refine own_lmul X264 hx hby rfl at_477 (pc' := 478) rfl ?_
                  generalize q_n270 : (n268 * (((8 : Int32) - n5).toInt64)) = n270
                  generalize q_n271 : (n269 * (n5.toInt64)) = n271
                  refine own_lcmp X264 hx hby rfl at_478 (pc' := 479) rfl ?_
                  obtain ⟨w272, q_w272⟩ : ∃ z : Int32, (if n271 < n270 then (0 : Int32) else (1 : Int32)) = z := ⟨_, rfl⟩
                  refine own_join (S' := T264.setTop (mkF m 487 #[.val (.int p0), .val (.int p1), .val (.int p2), .val (.long p3), .second, .val (.int (1 : Int32)), .val (.int (0 : Int32)), .val (.int (1 : Int32)), .val (.int (1 : Int32)), .val (.int n5), .val (.int n6), .val (.int n7), .val (.int n8), .val (.int n9), .val (.int n10), .val (.int n11), .val (.int n12), .val (.int n13), .val (.int n14), .val (.int n15), .val (.ref b16), .val (.int r265), .val (.long n266), .second, .val (.long n267), .second, .val (.long n268), .second, .val (.long n269), .second, .unset] [(.int w272)])) (fun F' k' => ?_) ?_
                  · rw [← q_w272] at k'
                    by_cases hc273 : n271 < n270
                    · simp only [if_pos hc273] at k'
                      refine own_ifT X264 hx hby at_479 (own_lc_gt_p hc273) (by decide) (pc' := 486) (by decide) ?_
                      refine own_iconst X264 hx hby (v := (0 : Int32)) (by decide) at_486 (pc' := 487) rfl ?_
                      exact k'
                    · simp only [if_neg hc273] at k'
                      refine own_ifF X264 hx hby at_479 (own_lc_gt_n hc273) (pc' := 482) rfl ?_
                      refine own_iconst X264 hx hby (v := (1 : Int32)) (by decide) at_482 (pc' := 483) rfl ?_
                      refine own_goto X264 hx hby at_483 (by decide) (pc' := 487) (by decide) ?_
                      exact k'
                  refine own_istore X264 hx hby (L' := #[.val (.int p0), .val (.int p1), .val (.int p2), .val (.long p3), .second, .val (.int (1 : Int32)), .val (.int (0 : Int32)), .val (.int (1 : Int32)), .val (.int (1 : Int32)), .val (.int n5), .val (.int n6), .val (.int n7), .val (.int n8), .val (.int n9), .val (.int n10), .val (.int n11), .val (.int n12), .val (.int n13), .val (.int n14), .val (.int n15), .val (.ref b16), .val (.int r265), .val (.long n266), .second, .val (.long n267), .second, .val (.long n268), .second, .val (.long n269), .second, .val (.int w272)]) rfl at_487 (pc' := 489) rfl ?_
                  refine own_iload X264 hx hby rfl at_489 (pc' := 491) rfl ?_
                  refine own_iload X264 hx hby rfl at_491 (pc' := 493) rfl ?_
                  have hk274 : r265 = w272 := own_fin SD.2.2.2 R9 (own_t2 (own_b1' b_v245)) (own_t2 (own_b1' b_v261)) eu ed q_r265 q_n270 q_n271 q_w272
                  refine own_icF X264 hx hby at_493 (own_ic_ne_p hk274) (pc' := 496) rfl ?_
                  refine own_iconst X264 hx hby (v := (1 : Int32)) (by decide) at_496 (pc' := 497) rfl ?_
                  refine own_goto X264 hx hby at_497 (by decide) (pc' := 501) (by decide) ?_
                  exact own_retZ X264 hx hby Bd.notSynchronized Bd.returns (Or.inr rfl) at_501 (by decide) (by decide) eH264 ⟨rfl, N264⟩
            · as_aux_lemma =>
                refine own_iload X244 hx hby rfl at_237 (pc' := 239) rfl ?_
                refine own_iconst X244 hx hby (v := (1 : Int32)) (by decide) at_239 (pc' := 240) rfl ?_
                refine own_icF X244 hx hby at_240 (by decide) (pc' := 243) rfl ?_
                refine own_aload X244 hx hby rfl rfl at_243 (pc' := 245) rfl ?_
                refine own_iload X244 hx hby rfl at_245 (pc' := 247) rfl ?_
                refine own_iconst X244 hx hby (v := (0 : Int32)) (by decide) at_247 (pc' := 248) rfl ?_
                refine own_iload X244 hx hby rfl at_248 (pc' := 250) rfl ?_
                obtain ⟨v275, q_v275⟩ : ∃ z : UInt64, (FP.i2d n8) = z := ⟨_, rfl⟩
                have D_v275 : Dy v275 n8.toInt 0 := q_v275 ▸ dy_i2d n8
                refine own_i2d X244 hx hby q_v275 at_250 (pc' := 251) rfl ?_
                refine own_ldc2D X244 hx hby hZ hown (hw _ (List.mem_of_getElem? (i := 43) rfl)) at_251 (pc' := 254) rfl ?_
                obtain ⟨v276, q_v276⟩ : ∃ z : UInt64, (FP.ddiv v275 (4616189618054758400 : UInt64)) = z := ⟨_, rfl⟩
                have R_n8 := own_q3r q_n8
                have D_v276 : Dy v276 n8.toInt 2 := own_div4 q_v276 D_v275 R_n8
                have nn_v276 := D_v276.nn
                refine own_ddiv X244 hx hby (by rw [q_v276]; exact nn_v276) q_v276 at_254 (pc' := 255) rfl ?_
                refine own_iconst X244 hx hby (v := (3 : Int32)) (by decide) at_255 (pc' := 256) rfl ?_
                refine own_iload X244 hx hby rfl at_256 (pc' := 258) rfl ?_
                refine own_imul X244 hx hby rfl at_258 (pc' := 259) rfl ?_
                obtain ⟨v277, q_v277⟩ : ∃ z : UInt64, (FP.i2d ((3 : Int32) * n12)) = z := ⟨_, rfl⟩
                have D_v277 : Dy v277 (3 * n12.toInt) 0 := q_v277 ▸ (dy_i2d ((3 : Int32) * n12)).to (own_3k (own_k10 q_n12))
                refine own_i2d X244 hx hby q_v277 at_259 (pc' := 260) rfl ?_
                have LU260g := own_g D_v276 R_n8
                have LU260 := own_dn D_v276 R_n8 D_v277 (own_k10 q_n12) own_d0 own_b0
                refine own_virtual X244 hx hby hZ (y := (⟨"com/example/bidfold/bidfold/Branching", "learn", "(IZDD)V"⟩ : MethodName)) (y' := (⟨"com/example/bidfold/bidfold/Branching", "learn", "(IZDD)V"⟩ : MethodName)) (C := "com/example/bidfold/bidfold/Branching") (rest := []) hown (hw _ (List.mem_of_getElem? (i := 26) rfl)) (hw _ (List.mem_of_getElem? (i := 27) rfl)) (notFace_of_selects (args := #[]) (mvT hZ (hw _ (List.mem_of_getElem? (i := 29) rfl)))) (hw _ (List.mem_of_getElem? (i := 29) rfl)) (hw _ (List.mem_of_getElem? (i := 28) rfl)) (hw _ (List.mem_of_getElem? (i := 30) rfl)) (hw _ (List.mem_of_getElem? (i := 2) rfl)) (by decide) (rm310 l Z a0 hw [] b16 v276 v277 b4_17 b6_17 v194 (0 : UInt64) (1 : Int32) (0 : Int32) h244 n0 Z0 F_b16_downFalls F_b16_downCounts V_b4_17 V_b6_17 LU260g.1 LU260g.2 LU260.1 LU260.2.1 g_b4_17 ne_b16_b4_17 (Ne.symm ne_b4_17_b6_17) g_b6_17 ne_b16_b6_17) eH244 (by rw [hml]; rfl) (a := b16) E_b16 (argsL := [(.int (1 : Int32)), (.int (0 : Int32)), (.double v276), (.double v277)]) rfl (lenOf pd_2 rfl) rfl at_260 (pc' := 263) rfl (by decide) (W := 0) (Nat.le_of_eq rfl) (by decide) (by decide) (by decide) (fun T278 h278 Lc278 v278r X278 eH278 hQ278 => ?_)
                obtain ⟨rfl, Nq278, Kq278, gq278_0, gq278_1⟩ := hQ278
                have N278 := Fr.app N244 Nq278
                replace E_b16 := E_b16.keep Kq278
                replace F_b16_downFalls := F_b16_downFalls.keep Kq278 (ninS ne_b16_b4_17 (ninS ne_b16_b6_17 nin0))
                replace F_b16_downCounts := F_b16_downCounts.keep Kq278 (ninS ne_b16_b4_17 (ninS ne_b16_b6_17 nin0))
                replace F_b16_upFalls := F_b16_upFalls.keep Kq278 (ninS ne_b16_b4_17 (ninS ne_b16_b6_17 nin0))
                replace F_b16_upCounts := F_b16_upCounts.keep Kq278 (ninS ne_b16_b4_17 (ninS ne_b16_b6_17 nin0))
                replace E_b4_17 := E_b4_17.keep Kq278
                replace E_b6_17 := E_b6_17.keep Kq278
                replace E_b8_17 := E_b8_17.keep Kq278
                replace V_b8_17 := V_b8_17.keep Kq278 (ninS (Ne.symm ne_b4_17_b8_17) (ninS (Ne.symm ne_b6_17_b8_17) nin0))
                replace E_b10_17 := E_b10_17.keep Kq278
                replace V_b10_17 := V_b10_17.keep Kq278 (ninS (Ne.symm ne_b4_17_b10_17) (ninS (Ne.symm ne_b6_17_b10_17) nin0))
                obtain ⟨v279, q_v279⟩ : ∃ z : UInt64, (FP.dadd (0 : UInt64) (FP.ddiv v277 v276)) = z := ⟨_, rfl⟩
                have V_b4_17 : Ary tr Z h278 b4_17 .double [(.double v194), (.double v279)] := by rw [← q_v279]; exact gq278_0
                rw [show ((0 : Int32) + (1 : Int32)) = (1 : Int32) from by decide] at gq278_1
                have V_b6_17 := gq278_1
                replace Z0 := Nat.le_trans Z0 Kq278.1
                have S_v279 : Dy v279 (0 + 12 * n12.toInt / n8.toInt) 0 := by have q := LU260.2.2; rwa [q_v279] at q
                have b_v279 := own_dq (n := n8.toInt) (k := n12.toInt) R_n8 (own_k10 q_n12)
                refine own_iload X278 hx hby rfl at_263 (pc' := 265) rfl ?_
                refine own_iconst X278 hx hby (v := (2 : Int32)) (by decide) at_265 (pc' := 266) rfl ?_
                refine own_icF X278 hx hby at_266 (by decide) (pc' := 269) rfl ?_
                refine own_aload X278 hx hby rfl rfl at_269 (pc' := 271) rfl ?_
                refine own_iload X278 hx hby rfl at_271 (pc' := 273) rfl ?_
                refine own_iconst X278 hx hby (v := (0 : Int32)) (by decide) at_273 (pc' := 274) rfl ?_
                refine own_iload X278 hx hby rfl at_274 (pc' := 276) rfl ?_
                obtain ⟨v280, q_v280⟩ : ∃ z : UInt64, (FP.i2d n9) = z := ⟨_, rfl⟩
                have D_v280 : Dy v280 n9.toInt 0 := q_v280 ▸ dy_i2d n9
                refine own_i2d X278 hx hby q_v280 at_276 (pc' := 277) rfl ?_
                refine own_ldc2D X278 hx hby hZ hown (hw _ (List.mem_of_getElem? (i := 43) rfl)) at_277 (pc' := 280) rfl ?_
                obtain ⟨v281, q_v281⟩ : ∃ z : UInt64, (FP.ddiv v280 (4616189618054758400 : UInt64)) = z := ⟨_, rfl⟩
                have R_n9 := own_q3r q_n9
                have D_v281 : Dy v281 n9.toInt 2 := own_div4 q_v281 D_v280 R_n9
                have nn_v281 := D_v281.nn
                refine own_ddiv X278 hx hby (by rw [q_v281]; exact nn_v281) q_v281 at_280 (pc' := 281) rfl ?_
                refine own_iconst X278 hx hby (v := (3 : Int32)) (by decide) at_281 (pc' := 282) rfl ?_
                refine own_iload X278 hx hby rfl at_282 (pc' := 284) rfl ?_
                refine own_imul X278 hx hby rfl at_284 (pc' := 285) rfl ?_
                obtain ⟨v282, q_v282⟩ : ∃ z : UInt64, (FP.i2d ((3 : Int32) * n13)) = z := ⟨_, rfl⟩
                have D_v282 : Dy v282 (3 * n13.toInt) 0 := q_v282 ▸ (dy_i2d ((3 : Int32) * n13)).to (own_3k (own_k10 q_n13))
                refine own_i2d X278 hx hby q_v282 at_285 (pc' := 286) rfl ?_
                have LU286g := own_g D_v281 R_n9
                have LU286 := own_dn D_v281 R_n9 D_v282 (own_k10 q_n13) S_v279 (own_b1 b_v279)
                refine own_virtual X278 hx hby hZ (y := (⟨"com/example/bidfold/bidfold/Branching", "learn", "(IZDD)V"⟩ : MethodName)) (y' := (⟨"com/example/bidfold/bidfold/Branching", "learn", "(IZDD)V"⟩ : MethodName)) (C := "com/example/bidfold/bidfold/Branching") (rest := []) hown (hw _ (List.mem_of_getElem? (i := 26) rfl)) (hw _ (List.mem_of_getElem? (i := 27) rfl)) (notFace_of_selects (args := #[]) (mvT hZ (hw _ (List.mem_of_getElem? (i := 29) rfl)))) (hw _ (List.mem_of_getElem? (i := 29) rfl)) (hw _ (List.mem_of_getElem? (i := 28) rfl)) (hw _ (List.mem_of_getElem? (i := 30) rfl)) (hw _ (List.mem_of_getElem? (i := 2) rfl)) (by decide) (rm310 l Z a0 hw [] b16 v281 v282 b4_17 b6_17 v194 v279 (1 : Int32) (1 : Int32) h278 n0 Z0 F_b16_downFalls F_b16_downCounts V_b4_17 V_b6_17 LU286g.1 LU286g.2 LU286.1 LU286.2.1 g_b4_17 ne_b16_b4_17 (Ne.symm ne_b4_17_b6_17) g_b6_17 ne_b16_b6_17) eH278 (by rw [hml]; rfl) (a := b16) E_b16 (argsL := [(.int (1 : Int32)), (.int (0 : Int32)), (.double v281), (.double v282)]) rfl (lenOf pd_2 rfl) rfl at_286 (pc' := 289) rfl (by decide) (W := 0) (Nat.le_of_eq rfl) (by decide) (by decide) (by decide) (fun T283 h283 Lc283 v283r X283 eH283 hQ283 => ?_)
                obtain ⟨rfl, Nq283, Kq283, gq283_0, gq283_1⟩ := hQ283
                have N283 := Fr.app N278 Nq283
                replace E_b16 := E_b16.keep Kq283
                replace F_b16_downFalls := F_b16_downFalls.keep Kq283 (ninS ne_b16_b4_17 (ninS ne_b16_b6_17 nin0))
                replace F_b16_downCounts := F_b16_downCounts.keep Kq283 (ninS ne_b16_b4_17 (ninS ne_b16_b6_17 nin0))
                replace F_b16_upFalls := F_b16_upFalls.keep Kq283 (ninS ne_b16_b4_17 (ninS ne_b16_b6_17 nin0))
                replace F_b16_upCounts := F_b16_upCounts.keep Kq283 (ninS ne_b16_b4_17 (ninS ne_b16_b6_17 nin0))
                replace E_b4_17 := E_b4_17.keep Kq283
                replace E_b6_17 := E_b6_17.keep Kq283
                replace E_b8_17 := E_b8_17.keep Kq283
                replace V_b8_17 := V_b8_17.keep Kq283 (ninS (Ne.symm ne_b4_17_b8_17) (ninS (Ne.symm ne_b6_17_b8_17) nin0))
                replace E_b10_17 := E_b10_17.keep Kq283
                replace V_b10_17 := V_b10_17.keep Kq283 (ninS (Ne.symm ne_b4_17_b10_17) (ninS (Ne.symm ne_b6_17_b10_17) nin0))
                obtain ⟨v284, q_v284⟩ : ∃ z : UInt64, (FP.dadd v279 (FP.ddiv v282 v281)) = z := ⟨_, rfl⟩
                have V_b4_17 : Ary tr Z h283 b4_17 .double [(.double v194), (.double v284)] := by rw [← q_v284]; exact gq283_0
                rw [show ((1 : Int32) + (1 : Int32)) = (2 : Int32) from by decide] at gq283_1
                have V_b6_17 := gq283_1
                replace Z0 := Nat.le_trans Z0 Kq283.1
                have S_v284 : Dy v284 ((0 + 12 * n12.toInt / n8.toInt) + 12 * n13.toInt / n9.toInt) 0 := by have q := LU286.2.2; rwa [q_v284] at q
                have b_v284 := own_dq (n := n9.toInt) (k := n13.toInt) R_n9 (own_k10 q_n13)
                refine own_aload X283 hx hby rfl rfl at_289 (pc' := 291) rfl ?_
                refine own_iload X283 hx hby rfl at_291 (pc' := 293) rfl ?_
                refine own_iload X283 hx hby rfl at_293 (pc' := 295) rfl ?_
                obtain ⟨v285, q_v285⟩ : ∃ z : UInt64, (FP.i2d n5) = z := ⟨_, rfl⟩
                have D_v285 : Dy v285 n5.toInt 0 := q_v285 ▸ dy_i2d n5
                refine own_i2d X283 hx hby q_v285 at_295 (pc' := 296) rfl ?_
                refine own_ldc2D X283 hx hby hZ hown (hw _ (List.mem_of_getElem? (i := 33) rfl)) at_296 (pc' := 299) rfl ?_
                obtain ⟨v286, q_v286⟩ : ∃ z : UInt64, (FP.ddiv v285 (4620693217682128896 : UInt64)) = z := ⟨_, rfl⟩
                have R9 := own_r9 q_n5
                have D_v286 : Dy v286 n5.toInt 3 := own_div8 q_v286 D_v285 R9
                have nn_v286 := D_v286.nn
                refine own_ddiv X283 hx hby (by rw [q_v286]; exact nn_v286) q_v286 at_299 (pc' := 300) rfl ?_
                have MA0 := own_f1 S_v245 (own_b1' b_v245)
                have MA := own_ifp (p := 0 < (1 : Int32)) (by decide) (y := (4607182418800017408 : UInt64)) MA0
                have MB0 := own_f2 S_v284 (own_b2 b_v279 b_v284)
                have MB := own_ifp (p := 0 < (2 : Int32)) (by decide) (y := (4607182418800017408 : UInt64)) MB0
                have SD := own_sides MA MB (own_t2 (own_b1' b_v245)) (own_t1 (own_b2 b_v279 b_v284)) D_v286 R9
                refine own_virtual X283 hx hby hZ (y := (⟨"com/example/bidfold/bidfold/Branching", "leansIn", "(ID)Z"⟩ : MethodName)) (y' := (⟨"com/example/bidfold/bidfold/Branching", "leansIn", "(ID)Z"⟩ : MethodName)) (C := "com/example/bidfold/bidfold/Branching") (rest := []) hown (hw _ (List.mem_of_getElem? (i := 34) rfl)) (hw _ (List.mem_of_getElem? (i := 35) rfl)) (notFace_of_selects (args := #[]) (mvT hZ (hw _ (List.mem_of_getElem? (i := 37) rfl)))) (hw _ (List.mem_of_getElem? (i := 37) rfl)) (hw _ (List.mem_of_getElem? (i := 36) rfl)) (hw _ (List.mem_of_getElem? (i := 38) rfl)) (hw _ (List.mem_of_getElem? (i := 2) rfl)) (by decide) (rm41 l Z a0 hw [] b16 v286 b8_17 b10_17 v191 v245 (1 : Int32) (1 : Int32) b4_17 b6_17 v194 v284 (1 : Int32) (2 : Int32) h283 n0 Z0 F_b16_upFalls F_b16_upCounts V_b8_17 V_b10_17 F_b16_downFalls F_b16_downCounts V_b4_17 V_b6_17 (fun _ => MA0.nn) SD.1 SD.2.1 (fun _ => MB0.nn) SD.2.2.1) eH283 (by rw [hml]; rfl) (a := b16) E_b16 (argsL := [(.int (1 : Int32)), (.double v286)]) rfl (lenOf pd_3 rfl) rfl at_300 (pc' := 303) rfl (by decide) (W := 0) (Nat.le_of_eq rfl) (by decide) (by decide) (by decide) (fun T287 h287 Lc287 v287r X287 eH287 hQ287 => ?_)
                obtain ⟨rfl, Nq287, rfl⟩ := hQ287
                have N287 := Fr.app N283 Nq287
                dsimp only [Option.toList, List.cons_append, List.nil_append]
                generalize q_r288 : (if dle (FP.dmul (if 0 < (1 : Int32) then (FP.ddiv v245 (FP.i2d (1 : Int32))) else (4607182418800017408 : UInt64)) (FP.dsub (4607182418800017408 : UInt64) v286)) (FP.dmul (if 0 < (2 : Int32) then (FP.ddiv v284 (FP.i2d (2 : Int32))) else (4607182418800017408 : UInt64)) v286) then (1 : Int32) else (0 : Int32)) = r288
                refine own_istore X287 hx hby (L' := #[.val (.int p0), .val (.int p1), .val (.int p2), .val (.long p3), .second, .val (.int (1 : Int32)), .val (.int (0 : Int32)), .val (.int (1 : Int32)), .val (.int (2 : Int32)), .val (.int n5), .val (.int n6), .val (.int n7), .val (.int n8), .val (.int n9), .val (.int n10), .val (.int n11), .val (.int n12), .val (.int n13), .val (.int n14), .val (.int n15), .val (.ref b16), .val (.int r288), .unset, .unset, .unset, .unset, .unset, .unset, .unset, .unset, .unset]) rfl at_303 (pc' := 305) rfl ?_
                refine own_lconst X287 hx hby (v := (0 : Int64)) (by decide) at_305 (pc' := 306) rfl ?_
                refine own_lstore X287 hx hby (L' := #[.val (.int p0), .val (.int p1), .val (.int p2), .val (.long p3), .second, .val (.int (1 : Int32)), .val (.int (0 : Int32)), .val (.int (1 : Int32)), .val (.int (2 : Int32)), .val (.int n5), .val (.int n6), .val (.int n7), .val (.int n8), .val (.int n9), .val (.int n10), .val (.int n11), .val (.int n12), .val (.int n13), .val (.int n14), .val (.int n15), .val (.ref b16), .val (.int r288), .val (.long (0 : Int64)), .second, .unset, .unset, .unset, .unset, .unset, .unset, .unset]) rfl at_306 (pc' := 308) rfl ?_
                refine own_iload X287 hx hby rfl at_308 (pc' := 310) rfl ?_
                refine own_iconst X287 hx hby (v := (1 : Int32)) (by decide) at_310 (pc' := 311) rfl ?_
                refine own_icF X287 hx hby at_311 (by decide) (pc' := 314) rfl ?_
                refine own_lload X287 hx hby rfl at_314 (pc' := 316) rfl ?_
                refine own_ldc2L X287 hx hby hZ hown (hw _ (List.mem_of_getElem? (i := 44) rfl)) at_316 (pc' := 319) rfl ?_
                refine own_iload X287 hx hby rfl at_319 (pc' := 321) rfl ?_
                as_aux_lemma =>
                  refine own_i2l X287 hx hby rfl at_321 (pc' := 322) rfl ?_
                  refine own_lmul X287 hx hby rfl at_322 (pc' := 323) rfl ?_
                  refine own_iconst X287 hx hby (v := (4 : Int32)) (by decide) at_323 (pc' := 324) rfl ?_
                  refine own_iload X287 hx hby rfl at_324 (pc' := 326) rfl ?_
                  refine own_isub X287 hx hby rfl at_326 (pc' := 327) rfl ?_
                  refine own_i2l X287 hx hby rfl at_327 (pc' := 328) rfl ?_
                  refine own_ldiv X287 hx hby (own_nzL (own_4q R_n6) (own_4qd R_n6).1) rfl at_328 (pc' := 329) rfl ?_
                  refine own_ladd X287 hx hby rfl at_329 (pc' := 330) rfl ?_
                  generalize q_n289 : ((0 : Int64) + (((12 : Int64) * (n10.toInt64)) / (((4 : Int32) - n6).toInt64))) = n289
                  refine own_lstore X287 hx hby (L' := #[.val (.int p0), .val (.int p1), .val (.int p2), .val (.long p3), .second, .val (.int (1 : Int32)), .val (.int (0 : Int32)), .val (.int (1 : Int32)), .val (.int (2 : Int32)), .val (.int n5), .val (.int n6), .val (.int n7), .val (.int n8), .val (.int n9), .val (.int n10), .val (.int n11), .val (.int n12), .val (.int n13), .val (.int n14), .val (.int n15), .val (.ref b16), .val (.int r288), .val (.long n289), .second, .unset, .unset, .unset, .unset, .unset, .unset, .unset]) rfl at_330 (pc' := 332) rfl ?_
                  refine own_iload X287 hx hby rfl at_332 (pc' := 334) rfl ?_
                  refine own_iconst X287 hx hby (v := (2 : Int32)) (by decide) at_334 (pc' := 335) rfl ?_
                  refine own_icT X287 hx hby at_335 (by decide) (by decide) (pc' := 356) (by decide) ?_
                  refine own_lconst X287 hx hby (v := (0 : Int64)) (by decide) at_356 (pc' := 357) rfl ?_
                  refine own_lstore X287 hx hby (L' := #[.val (.int p0), .val (.int p1), .val (.int p2), .val (.long p3), .second, .val (.int (1 : Int32)), .val (.int (0 : Int32)), .val (.int (1 : Int32)), .val (.int (2 : Int32)), .val (.int n5), .val (.int n6), .val (.int n7), .val (.int n8), .val (.int n9), .val (.int n10), .val (.int n11), .val (.int n12), .val (.int n13), .val (.int n14), .val (.int n15), .val (.ref b16), .val (.int r288), .val (.long n289), .second, .val (.long (0 : Int64)), .second, .unset, .unset, .unset, .unset, .unset]) rfl at_357 (pc' := 359) rfl ?_
                  refine own_iload X287 hx hby rfl at_359 (pc' := 361) rfl ?_
                  refine own_iconst X287 hx hby (v := (1 : Int32)) (by decide) at_361 (pc' := 362) rfl ?_
                  refine own_icF X287 hx hby at_362 (by decide) (pc' := 365) rfl ?_
                  refine own_lload X287 hx hby rfl at_365 (pc' := 367) rfl ?_
                  refine own_ldc2L X287 hx hby hZ hown (hw _ (List.mem_of_getElem? (i := 44) rfl)) at_367 (pc' := 370) rfl ?_
                  refine own_iload X287 hx hby rfl at_370 (pc' := 372) rfl ?_
                  refine own_i2l X287 hx hby rfl at_372 (pc' := 373) rfl ?_
                  refine own_lmul X287 hx hby rfl at_373 (pc' := 374) rfl ?_
                  refine own_iload X287 hx hby rfl at_374 (pc' := 376) rfl ?_
                  refine own_i2l X287 hx hby rfl at_376 (pc' := 377) rfl ?_
                  refine own_ldiv X287 hx hby (own_nzL (c_i2l n8) R_n8.1) rfl at_377 (pc' := 378) rfl ?_
                  refine own_ladd X287 hx hby rfl at_378 (pc' := 379) rfl ?_
                  generalize q_n290 : ((0 : Int64) + (((12 : Int64) * (n12.toInt64)) / (n8.toInt64))) = n290
                  refine own_lstore X287 hx hby (L' := #[.val (.int p0), .val (.int p1), .val (.int p2), .val (.long p3), .second, .val (.int (1 : Int32)), .val (.int (0 : Int32)), .val (.int (1 : Int32)), .val (.int (2 : Int32)), .val (.int n5), .val (.int n6), .val (.int n7), .val (.int n8), .val (.int n9), .val (.int n10), .val (.int n11), .val (.int n12), .val (.int n13), .val (.int n14), .val (.int n15), .val (.ref b16), .val (.int r288), .val (.long n289), .second, .val (.long n290), .second, .unset, .unset, .unset, .unset, .unset]) rfl at_379 (pc' := 381) rfl ?_
                  refine own_iload X287 hx hby rfl at_381 (pc' := 383) rfl ?_
                  refine own_iconst X287 hx hby (v := (2 : Int32)) (by decide) at_383 (pc' := 384) rfl ?_
                  refine own_icF X287 hx hby at_384 (by decide) (pc' := 387) rfl ?_
                  refine own_lload X287 hx hby rfl at_387 (pc' := 389) rfl ?_
                  refine own_ldc2L X287 hx hby hZ hown (hw _ (List.mem_of_getElem? (i := 44) rfl)) at_389 (pc' := 392) rfl ?_
                  refine own_iload X287 hx hby rfl at_392 (pc' := 394) rfl ?_
                  refine own_i2l X287 hx hby rfl at_394 (pc' := 395) rfl ?_
                  refine own_lmul X287 hx hby rfl at_395 (pc' := 396) rfl ?_
                  refine own_iload X287 hx hby rfl at_396 (pc' := 398) rfl ?_
                  refine own_i2l X287 hx hby rfl at_398 (pc' := 399) rfl ?_
                  refine own_ldiv X287 hx hby (own_nzL (c_i2l n9) R_n9.1) rfl at_399 (pc' := 400) rfl ?_
                  refine own_ladd X287 hx hby rfl at_400 (pc' := 401) rfl ?_
                  generalize q_n291 : (n290 + (((12 : Int64) * (n13.toInt64)) / (n9.toInt64))) = n291
                  refine own_lstore X287 hx hby (L' := #[.val (.int p0), .val (.int p1), .val (.int p2), .val (.long p3), .second, .val (.int (1 : Int32)), .val (.int (0 : Int32)), .val (.int (1 : Int32)), .val (.int (2 : Int32)), .val (.int n5), .val (.int n6), .val (.int n7), .val (.int n8), .val (.int n9), .val (.int n10), .val (.int n11), .val (.int n12), .val (.int n13), .val (.int n14), .val (.int n15), .val (.ref b16), .val (.int r288), .val (.long n289), .second, .val (.long n291), .second, .unset, .unset, .unset, .unset, .unset]) rfl at_401 (pc' := 403) rfl ?_
                  refine own_iload X287 hx hby rfl at_403 (pc' := 405) rfl ?_
                  refine own_ifT X287 hx hby at_405 (by decide) (by decide) (pc' := 414) (by decide) ?_
                  refine own_iload X287 hx hby rfl at_414 (pc' := 416) rfl ?_
                  refine own_iconst X287 hx hby (v := (1 : Int32)) (by decide) at_416 (pc' := 417) rfl ?_
                  refine own_icF X287 hx hby at_417 (by decide) (pc' := 420) rfl ?_
                  refine own_ldc2L X287 hx hby hZ hown (hw _ (List.mem_of_getElem? (i := 42) rfl)) at_420 (pc' := 423) rfl ?_
                  refine own_lload X287 hx hby rfl at_423 (pc' := 425) rfl ?_
                  refine own_lmul X287 hx hby rfl at_425 (pc' := 426) rfl ?_
                  refine own_goto X287 hx hby at_426 (by decide) (pc' := 431) (by decide) ?_
                  generalize q_n292 : ((2 : Int64) * n289) = n292
                  refine own_lstore X287 hx hby (L' := #[.val (.int p0), .val (.int p1), .val (.int p2), .val (.long p3), .second, .val (.int (1 : Int32)), .val (.int (0 : Int32)), .val (.int (1 : Int32)), .val (.int (2 : Int32)), .val (.int n5), .val (.int n6), .val (.int n7), .val (.int n8), .val (.int n9), .val (.int n10), .val (.int n11), .val (.int n12), .val (.int n13), .val (.int n14), .val (.int n15), .val (.ref b16), .val (.int r288), .val (.long n289), .second, .val (.long n291), .second, .val (.long n292), .second, .unset, .unset, .unset]) rfl at_431 (pc' := 433) rfl ?_
                  refine own_iload X287 hx hby rfl at_433 (pc' := 435) rfl ?_
                  refine own_ifT X287 hx hby at_435 (by decide) (by decide) (pc' := 444) (by decide) ?_
                  refine own_iload X287 hx hby rfl at_444 (pc' := 446) rfl ?_
                  refine own_iconst X287 hx hby (v := (1 : Int32)) (by decide) at_446 (pc' := 447) rfl ?_
                  refine own_icT X287 hx hby at_447 (by decide) (by decide) (pc' := 459) (by decide) ?_
                  refine own_lload X287 hx hby rfl at_459 (pc' := 461) rfl ?_
                  refine own_lstore X287 hx hby (L' := #[.val (.int p0), .val (.int p1), .val (.int p2), .val (.long p3), .second, .val (.int (1 : Int32)), .val (.int (0 : Int32)), .val (.int (1 : Int32)), .val (.int (2 : Int32)), .val (.int n5), .val (.int n6), .val (.int n7), .val (.int n8), .val (.int n9), .val (.int n10), .val (.int n11), .val (.int n12), .val (.int n13), .val (.int n14), .val (.int n15), .val (.ref b16), .val (.int r288), .val (.long n289), .second, .val (.long n291), .second, .val (.long n292), .second, .val (.long n291), .second, .unset]) rfl at_461 (pc' := 463) rfl ?_
                  have tw_n289 := own_tw (k := n10) (own_4q R_n6) (own_4qd R_n6) (own_k10 q_n10)
                  have bq_n289 := own_dq (n := (4 - n6.toInt)) (k := n10.toInt) (own_4qd R_n6) (own_k10 q_n10)
                  have et_n289 : n289.toInt = (0 + 12 * n10.toInt / (4 - n6.toInt)) := own_ls q_n289 own_e0 tw_n289 (own_w3 own_b0) bq_n289
                  have eu : n292.toInt = 2 * (0 + 12 * n10.toInt / (4 - n6.toInt)) := own_l2 q_n292 et_n289 (own_b1' bq_n289)
                  have tw_n290 := own_tw (k := n12) (c_i2l n8) R_n8 (own_k10 q_n12)
                  have bq_n290 := own_dq (n := n8.toInt) (k := n12.toInt) R_n8 (own_k10 q_n12)
                  have et_n290 : n290.toInt = (0 + 12 * n12.toInt / n8.toInt) := own_ls q_n290 own_e0 tw_n290 (own_w3 own_b0) bq_n290
                  have tw_n291 := own_tw (k := n13) (c_i2l n9) R_n9 (own_k10 q_n13)
                  have bq_n291 := own_dq (n := n9.toInt) (k := n13.toInt) R_n9 (own_k10 q_n13)
                  have et_n291 : n291.toInt = ((0 + 12 * n12.toInt / n8.toInt) + 12 * n13.toInt / n9.toInt) := own_ls q_n291 et_n290 tw_n291 (own_b1' bq_n290) bq_n291
                  have ed := et_n291
                  refine own_lload X287 hx hby rfl at_463 (pc' := 465) rfl ?_
                  refine own_bipush X287 hx hby (v := (8 : Int32)) (by decide) at_465 (pc' := 467) rfl ?_
                  refine own_iload X287 hx hby rfl at_467 (pc' := 469) rfl ?_
                  refine own_isub X287 hx hby rfl at_469 (pc' := 470) rfl ?_
                  refine own_i2l X287 hx hby rfl at_470 (pc' := 471) rfl ?_
                  refine own_lmul X287 hx hby rfl at_471 (pc' := 472) rfl ?_
                  refine own_lload X287 hx hby rfl at_472 (pc' := 474) rfl ?_
                  refine own_iload X287 hx hby rfl at_474 (pc' := 476) rfl ?_
                  refine own_i2l X287 hx hby rfl at_476 (pc' := 477) rfl ?_
                  refine own_lmul X287 hx hby rfl at_477 (pc' := 478) rfl ?_
                  generalize q_n293 : (n292 * (((8 : Int32) - n5).toInt64)) = n293
                  generalize q_n294 : (n291 * (n5.toInt64)) = n294
                  refine own_lcmp X287 hx hby rfl at_478 (pc' := 479) rfl ?_
                  obtain ⟨w295, q_w295⟩ : ∃ z : Int32, (if n294 < n293 then (0 : Int32) else (1 : Int32)) = z := ⟨_, rfl⟩
                  refine own_join (S' := T287.setTop (mkF m 487 #[.val (.int p0), .val (.int p1), .val (.int p2), .val (.long p3), .second, .val (.int (1 : Int32)), .val (.int (0 : Int32)), .val (.int (1 : Int32)), .val (.int (2 : Int32)), .val (.int n5), .val (.int n6), .val (.int n7), .val (.int n8), .val (.int n9), .val (.int n10), .val (.int n11), .val (.int n12), .val (.int n13), .val (.int n14), .val (.int n15), .val (.ref b16), .val (.int r288), .val (.long n289), .second, .val (.long n291), .second, .val (.long n292), .second, .val (.long n291), .second, .unset] [(.int w295)])) (fun F' k' => ?_) ?_
                  · rw [← q_w295] at k'
                    by_cases hc296 : n294 < n293
                    · simp only [if_pos hc296] at k'
                      refine own_ifT X287 hx hby at_479 (own_lc_gt_p hc296) (by decide) (pc' := 486) (by decide) ?_
                      refine own_iconst X287 hx hby (v := (0 : Int32)) (by decide) at_486 (pc' := 487) rfl ?_
                      exact k'
                    · simp only [if_neg hc296] at k'
                      refine own_ifF X287 hx hby at_479 (own_lc_gt_n hc296) (pc' := 482) rfl ?_
                      refine own_iconst X287 hx hby (v := (1 : Int32)) (by decide) at_482 (pc' := 483) rfl ?_
                      refine own_goto X287 hx hby at_483 (by decide) (pc' := 487) (by decide) ?_
                      exact k'
                  refine own_istore X287 hx hby (L' := #[.val (.int p0), .val (.int p1), .val (.int p2), .val (.long p3), .second, .val (.int (1 : Int32)), .val (.int (0 : Int32)), .val (.int (1 : Int32)), .val (.int (2 : Int32)), .val (.int n5), .val (.int n6), .val (.int n7), .val (.int n8), .val (.int n9), .val (.int n10), .val (.int n11), .val (.int n12), .val (.int n13), .val (.int n14), .val (.int n15), .val (.ref b16), .val (.int r288), .val (.long n289), .second, .val (.long n291), .second, .val (.long n292), .second, .val (.long n291), .second, .val (.int w295)]) rfl at_487 (pc' := 489) rfl ?_
                  refine own_iload X287 hx hby rfl at_489 (pc' := 491) rfl ?_
                  refine own_iload X287 hx hby rfl at_491 (pc' := 493) rfl ?_
                  have hk297 : r288 = w295 := own_fin SD.2.2.2 R9 (own_t2 (own_b1' b_v245)) (own_t1 (own_b2 b_v279 b_v284)) eu ed q_r288 q_n293 q_n294 q_w295
                  refine own_icF X287 hx hby at_493 (own_ic_ne_p hk297) (pc' := 496) rfl ?_
                  refine own_iconst X287 hx hby (v := (1 : Int32)) (by decide) at_496 (pc' := 497) rfl ?_
                  refine own_goto X287 hx hby at_497 (by decide) (pc' := 501) (by decide) ?_
                  exact own_retZ X287 hx hby Bd.notSynchronized Bd.returns (Or.inr rfl) at_501 (by decide) (by decide) eH287 ⟨rfl, N287⟩
        · as_aux_lemma =>
            refine own_iload X193 hx hby rfl at_185 (pc' := 187) rfl ?_
            refine own_iconst X193 hx hby (v := (1 : Int32)) (by decide) at_187 (pc' := 188) rfl ?_
            refine own_icF X193 hx hby at_188 (by decide) (pc' := 191) rfl ?_
            refine own_aload X193 hx hby rfl rfl at_191 (pc' := 193) rfl ?_
            refine own_iload X193 hx hby rfl at_193 (pc' := 195) rfl ?_
            refine own_iconst X193 hx hby (v := (1 : Int32)) (by decide) at_195 (pc' := 196) rfl ?_
            refine own_iload X193 hx hby rfl at_196 (pc' := 198) rfl ?_
            obtain ⟨v298, q_v298⟩ : ∃ z : UInt64, (FP.i2d n6) = z := ⟨_, rfl⟩
            have D_v298 : Dy v298 n6.toInt 0 := q_v298 ▸ dy_i2d n6
            refine own_i2d X193 hx hby q_v298 at_198 (pc' := 199) rfl ?_
            refine own_ldc2D X193 hx hby hZ hown (hw _ (List.mem_of_getElem? (i := 43) rfl)) at_199 (pc' := 202) rfl ?_
            obtain ⟨v299, q_v299⟩ : ∃ z : UInt64, (FP.ddiv v298 (4616189618054758400 : UInt64)) = z := ⟨_, rfl⟩
            have R_n6 := own_q3r q_n6
            have D_v299 : Dy v299 n6.toInt 2 := own_div4 q_v299 D_v298 R_n6
            have nn_v299 := D_v299.nn
            refine own_ddiv X193 hx hby (by rw [q_v299]; exact nn_v299) q_v299 at_202 (pc' := 203) rfl ?_
            refine own_iconst X193 hx hby (v := (3 : Int32)) (by decide) at_203 (pc' := 204) rfl ?_
            refine own_iload X193 hx hby rfl at_204 (pc' := 206) rfl ?_
            refine own_imul X193 hx hby rfl at_206 (pc' := 207) rfl ?_
            obtain ⟨v300, q_v300⟩ : ∃ z : UInt64, (FP.i2d ((3 : Int32) * n10)) = z := ⟨_, rfl⟩
            have D_v300 : Dy v300 (3 * n10.toInt) 0 := q_v300 ▸ (dy_i2d ((3 : Int32) * n10)).to (own_3k (own_k10 q_n10))
            refine own_i2d X193 hx hby q_v300 at_207 (pc' := 208) rfl ?_
            have LU208g := own_g D_v299 R_n6
            have LU208 := own_up D_v299 R_n6 D_v300 (own_k10 q_n10) own_d0 own_b0
            refine own_virtual X193 hx hby hZ (y := (⟨"com/example/bidfold/bidfold/Branching", "learn", "(IZDD)V"⟩ : MethodName)) (y' := (⟨"com/example/bidfold/bidfold/Branching", "learn", "(IZDD)V"⟩ : MethodName)) (C := "com/example/bidfold/bidfold/Branching") (rest := []) hown (hw _ (List.mem_of_getElem? (i := 26) rfl)) (hw _ (List.mem_of_getElem? (i := 27) rfl)) (notFace_of_selects (args := #[]) (mvT hZ (hw _ (List.mem_of_getElem? (i := 29) rfl)))) (hw _ (List.mem_of_getElem? (i := 29) rfl)) (hw _ (List.mem_of_getElem? (i := 28) rfl)) (hw _ (List.mem_of_getElem? (i := 30) rfl)) (hw _ (List.mem_of_getElem? (i := 2) rfl)) (by decide) (rm311 l Z a0 hw [] b16 v299 v300 b8_17 b10_17 v191 (0 : UInt64) (1 : Int32) (0 : Int32) h193 n0 Z0 F_b16_upFalls F_b16_upCounts V_b8_17 V_b10_17 LU208g.1 LU208g.2 LU208.1 LU208.2.1 LU208.2.2.1 g_b8_17 ne_b16_b8_17 (Ne.symm ne_b8_17_b10_17) g_b10_17 ne_b16_b10_17) eH193 (by rw [hml]; rfl) (a := b16) E_b16 (argsL := [(.int (1 : Int32)), (.int (1 : Int32)), (.double v299), (.double v300)]) rfl (lenOf pd_2 rfl) rfl at_208 (pc' := 211) rfl (by decide) (W := 0) (Nat.le_of_eq rfl) (by decide) (by decide) (by decide) (fun T301 h301 Lc301 v301r X301 eH301 hQ301 => ?_)
            obtain ⟨rfl, Nq301, Kq301, gq301_0, gq301_1⟩ := hQ301
            have N301 := Fr.app N193 Nq301
            replace E_b16 := E_b16.keep Kq301
            replace F_b16_downFalls := F_b16_downFalls.keep Kq301 (ninS ne_b16_b8_17 (ninS ne_b16_b10_17 nin0))
            replace F_b16_downCounts := F_b16_downCounts.keep Kq301 (ninS ne_b16_b8_17 (ninS ne_b16_b10_17 nin0))
            replace F_b16_upFalls := F_b16_upFalls.keep Kq301 (ninS ne_b16_b8_17 (ninS ne_b16_b10_17 nin0))
            replace F_b16_upCounts := F_b16_upCounts.keep Kq301 (ninS ne_b16_b8_17 (ninS ne_b16_b10_17 nin0))
            replace E_b4_17 := E_b4_17.keep Kq301
            replace V_b4_17 := V_b4_17.keep Kq301 (ninS ne_b4_17_b8_17 (ninS ne_b4_17_b10_17 nin0))
            replace E_b6_17 := E_b6_17.keep Kq301
            replace V_b6_17 := V_b6_17.keep Kq301 (ninS ne_b6_17_b8_17 (ninS ne_b6_17_b10_17 nin0))
            replace E_b8_17 := E_b8_17.keep Kq301
            replace E_b10_17 := E_b10_17.keep Kq301
            obtain ⟨v302, q_v302⟩ : ∃ z : UInt64, (FP.dadd (0 : UInt64) (FP.ddiv v300 (FP.dsub (4607182418800017408 : UInt64) v299))) = z := ⟨_, rfl⟩
            have V_b8_17 : Ary tr Z h301 b8_17 .double [(.double v191), (.double v302)] := by rw [← q_v302]; exact gq301_0
            rw [show ((0 : Int32) + (1 : Int32)) = (1 : Int32) from by decide] at gq301_1
            have V_b10_17 := gq301_1
            replace Z0 := Nat.le_trans Z0 Kq301.1
            have S_v302 : Dy v302 (0 + 12 * n10.toInt / (4 - n6.toInt)) 0 := by have q := LU208.2.2.2; rwa [q_v302] at q
            have b_v302 := own_dq (n := 4 - n6.toInt) (k := n10.toInt) (own_r4 R_n6) (own_k10 q_n10)
            refine own_iload X301 hx hby rfl at_211 (pc' := 213) rfl ?_
            refine own_iconst X301 hx hby (v := (2 : Int32)) (by decide) at_213 (pc' := 214) rfl ?_
            refine own_icF X301 hx hby at_214 (by decide) (pc' := 217) rfl ?_
            refine own_aload X301 hx hby rfl rfl at_217 (pc' := 219) rfl ?_
            refine own_iload X301 hx hby rfl at_219 (pc' := 221) rfl ?_
            refine own_iconst X301 hx hby (v := (1 : Int32)) (by decide) at_221 (pc' := 222) rfl ?_
            refine own_iload X301 hx hby rfl at_222 (pc' := 224) rfl ?_
            obtain ⟨v303, q_v303⟩ : ∃ z : UInt64, (FP.i2d n7) = z := ⟨_, rfl⟩
            have D_v303 : Dy v303 n7.toInt 0 := q_v303 ▸ dy_i2d n7
            refine own_i2d X301 hx hby q_v303 at_224 (pc' := 225) rfl ?_
            refine own_ldc2D X301 hx hby hZ hown (hw _ (List.mem_of_getElem? (i := 43) rfl)) at_225 (pc' := 228) rfl ?_
            obtain ⟨v304, q_v304⟩ : ∃ z : UInt64, (FP.ddiv v303 (4616189618054758400 : UInt64)) = z := ⟨_, rfl⟩
            have R_n7 := own_q3r q_n7
            have D_v304 : Dy v304 n7.toInt 2 := own_div4 q_v304 D_v303 R_n7
            have nn_v304 := D_v304.nn
            refine own_ddiv X301 hx hby (by rw [q_v304]; exact nn_v304) q_v304 at_228 (pc' := 229) rfl ?_
            refine own_iconst X301 hx hby (v := (3 : Int32)) (by decide) at_229 (pc' := 230) rfl ?_
            refine own_iload X301 hx hby rfl at_230 (pc' := 232) rfl ?_
            refine own_imul X301 hx hby rfl at_232 (pc' := 233) rfl ?_
            obtain ⟨v305, q_v305⟩ : ∃ z : UInt64, (FP.i2d ((3 : Int32) * n11)) = z := ⟨_, rfl⟩
            have D_v305 : Dy v305 (3 * n11.toInt) 0 := q_v305 ▸ (dy_i2d ((3 : Int32) * n11)).to (own_3k (own_k10 q_n11))
            refine own_i2d X301 hx hby q_v305 at_233 (pc' := 234) rfl ?_
            have LU234g := own_g D_v304 R_n7
            have LU234 := own_up D_v304 R_n7 D_v305 (own_k10 q_n11) S_v302 (own_b1 b_v302)
            refine own_virtual X301 hx hby hZ (y := (⟨"com/example/bidfold/bidfold/Branching", "learn", "(IZDD)V"⟩ : MethodName)) (y' := (⟨"com/example/bidfold/bidfold/Branching", "learn", "(IZDD)V"⟩ : MethodName)) (C := "com/example/bidfold/bidfold/Branching") (rest := []) hown (hw _ (List.mem_of_getElem? (i := 26) rfl)) (hw _ (List.mem_of_getElem? (i := 27) rfl)) (notFace_of_selects (args := #[]) (mvT hZ (hw _ (List.mem_of_getElem? (i := 29) rfl)))) (hw _ (List.mem_of_getElem? (i := 29) rfl)) (hw _ (List.mem_of_getElem? (i := 28) rfl)) (hw _ (List.mem_of_getElem? (i := 30) rfl)) (hw _ (List.mem_of_getElem? (i := 2) rfl)) (by decide) (rm311 l Z a0 hw [] b16 v304 v305 b8_17 b10_17 v191 v302 (1 : Int32) (1 : Int32) h301 n0 Z0 F_b16_upFalls F_b16_upCounts V_b8_17 V_b10_17 LU234g.1 LU234g.2 LU234.1 LU234.2.1 LU234.2.2.1 g_b8_17 ne_b16_b8_17 (Ne.symm ne_b8_17_b10_17) g_b10_17 ne_b16_b10_17) eH301 (by rw [hml]; rfl) (a := b16) E_b16 (argsL := [(.int (1 : Int32)), (.int (1 : Int32)), (.double v304), (.double v305)]) rfl (lenOf pd_2 rfl) rfl at_234 (pc' := 237) rfl (by decide) (W := 0) (Nat.le_of_eq rfl) (by decide) (by decide) (by decide) (fun T306 h306 Lc306 v306r X306 eH306 hQ306 => ?_)
            obtain ⟨rfl, Nq306, Kq306, gq306_0, gq306_1⟩ := hQ306
            have N306 := Fr.app N301 Nq306
            replace E_b16 := E_b16.keep Kq306
            replace F_b16_downFalls := F_b16_downFalls.keep Kq306 (ninS ne_b16_b8_17 (ninS ne_b16_b10_17 nin0))
            replace F_b16_downCounts := F_b16_downCounts.keep Kq306 (ninS ne_b16_b8_17 (ninS ne_b16_b10_17 nin0))
            replace F_b16_upFalls := F_b16_upFalls.keep Kq306 (ninS ne_b16_b8_17 (ninS ne_b16_b10_17 nin0))
            replace F_b16_upCounts := F_b16_upCounts.keep Kq306 (ninS ne_b16_b8_17 (ninS ne_b16_b10_17 nin0))
            replace E_b4_17 := E_b4_17.keep Kq306
            replace V_b4_17 := V_b4_17.keep Kq306 (ninS ne_b4_17_b8_17 (ninS ne_b4_17_b10_17 nin0))
            replace E_b6_17 := E_b6_17.keep Kq306
            replace V_b6_17 := V_b6_17.keep Kq306 (ninS ne_b6_17_b8_17 (ninS ne_b6_17_b10_17 nin0))
            replace E_b8_17 := E_b8_17.keep Kq306
            replace E_b10_17 := E_b10_17.keep Kq306
            obtain ⟨v307, q_v307⟩ : ∃ z : UInt64, (FP.dadd v302 (FP.ddiv v305 (FP.dsub (4607182418800017408 : UInt64) v304))) = z := ⟨_, rfl⟩
            have V_b8_17 : Ary tr Z h306 b8_17 .double [(.double v191), (.double v307)] := by rw [← q_v307]; exact gq306_0
            rw [show ((1 : Int32) + (1 : Int32)) = (2 : Int32) from by decide] at gq306_1
            have V_b10_17 := gq306_1
            replace Z0 := Nat.le_trans Z0 Kq306.1
            have S_v307 : Dy v307 ((0 + 12 * n10.toInt / (4 - n6.toInt)) + 12 * n11.toInt / (4 - n7.toInt)) 0 := by have q := LU234.2.2.2; rwa [q_v307] at q
            have b_v307 := own_dq (n := 4 - n7.toInt) (k := n11.toInt) (own_r4 R_n7) (own_k10 q_n11)
            rcases own_n3 q_n4 with rfl | rfl | rfl
            · refine own_iload X306 hx hby rfl at_237 (pc' := 239) rfl ?_
              refine own_iconst X306 hx hby (v := (1 : Int32)) (by decide) at_239 (pc' := 240) rfl ?_
              refine own_icT X306 hx hby at_240 (by decide) (by decide) (pc' := 263) (by decide) ?_
              refine own_iload X306 hx hby rfl at_263 (pc' := 265) rfl ?_
              refine own_iconst X306 hx hby (v := (2 : Int32)) (by decide) at_265 (pc' := 266) rfl ?_
              refine own_icT X306 hx hby at_266 (by decide) (by decide) (pc' := 289) (by decide) ?_
              refine own_aload X306 hx hby rfl rfl at_289 (pc' := 291) rfl ?_
              refine own_iload X306 hx hby rfl at_291 (pc' := 293) rfl ?_
              refine own_iload X306 hx hby rfl at_293 (pc' := 295) rfl ?_
              obtain ⟨v308, q_v308⟩ : ∃ z : UInt64, (FP.i2d n5) = z := ⟨_, rfl⟩
              have D_v308 : Dy v308 n5.toInt 0 := q_v308 ▸ dy_i2d n5
              refine own_i2d X306 hx hby q_v308 at_295 (pc' := 296) rfl ?_
              refine own_ldc2D X306 hx hby hZ hown (hw _ (List.mem_of_getElem? (i := 33) rfl)) at_296 (pc' := 299) rfl ?_
              obtain ⟨v309, q_v309⟩ : ∃ z : UInt64, (FP.ddiv v308 (4620693217682128896 : UInt64)) = z := ⟨_, rfl⟩
              have R9 := own_r9 q_n5
              have D_v309 : Dy v309 n5.toInt 3 := own_div8 q_v309 D_v308 R9
              have nn_v309 := D_v309.nn
              refine own_ddiv X306 hx hby (by rw [q_v309]; exact nn_v309) q_v309 at_299 (pc' := 300) rfl ?_
              have MA0 := own_f2 S_v307 (own_b2 b_v302 b_v307)
              have MA := own_ifp (p := 0 < (2 : Int32)) (by decide) (y := (4607182418800017408 : UInt64)) MA0
              have MB := own_f0 (e := (0 : UInt64))
              have SD := own_sides MA MB (own_t1 (own_b2 b_v302 b_v307)) own_tz D_v309 R9
              refine own_virtual X306 hx hby hZ (y := (⟨"com/example/bidfold/bidfold/Branching", "leansIn", "(ID)Z"⟩ : MethodName)) (y' := (⟨"com/example/bidfold/bidfold/Branching", "leansIn", "(ID)Z"⟩ : MethodName)) (C := "com/example/bidfold/bidfold/Branching") (rest := []) hown (hw _ (List.mem_of_getElem? (i := 34) rfl)) (hw _ (List.mem_of_getElem? (i := 35) rfl)) (notFace_of_selects (args := #[]) (mvT hZ (hw _ (List.mem_of_getElem? (i := 37) rfl)))) (hw _ (List.mem_of_getElem? (i := 37) rfl)) (hw _ (List.mem_of_getElem? (i := 36) rfl)) (hw _ (List.mem_of_getElem? (i := 38) rfl)) (hw _ (List.mem_of_getElem? (i := 2) rfl)) (by decide) (rm41 l Z a0 hw [] b16 v309 b8_17 b10_17 v191 v307 (1 : Int32) (2 : Int32) b4_17 b6_17 v194 (0 : UInt64) (1 : Int32) (0 : Int32) h306 n0 Z0 F_b16_upFalls F_b16_upCounts V_b8_17 V_b10_17 F_b16_downFalls F_b16_downCounts V_b4_17 V_b6_17 (fun _ => MA0.nn) SD.1 SD.2.1 (fun h => absurd h (by decide)) SD.2.2.1) eH306 (by rw [hml]; rfl) (a := b16) E_b16 (argsL := [(.int (1 : Int32)), (.double v309)]) rfl (lenOf pd_3 rfl) rfl at_300 (pc' := 303) rfl (by decide) (W := 0) (Nat.le_of_eq rfl) (by decide) (by decide) (by decide) (fun T310 h310 Lc310 v310r X310 eH310 hQ310 => ?_)
              obtain ⟨rfl, Nq310, rfl⟩ := hQ310
              have N310 := Fr.app N306 Nq310
              dsimp only [Option.toList, List.cons_append, List.nil_append]
              generalize q_r311 : (if dle (FP.dmul (if 0 < (2 : Int32) then (FP.ddiv v307 (FP.i2d (2 : Int32))) else (4607182418800017408 : UInt64)) (FP.dsub (4607182418800017408 : UInt64) v309)) (FP.dmul (if 0 < (0 : Int32) then (FP.ddiv (0 : UInt64) (FP.i2d (0 : Int32))) else (4607182418800017408 : UInt64)) v309) then (1 : Int32) else (0 : Int32)) = r311
              refine own_istore X310 hx hby (L' := #[.val (.int p0), .val (.int p1), .val (.int p2), .val (.long p3), .second, .val (.int (1 : Int32)), .val (.int (0 : Int32)), .val (.int (2 : Int32)), .val (.int (0 : Int32)), .val (.int n5), .val (.int n6), .val (.int n7), .val (.int n8), .val (.int n9), .val (.int n10), .val (.int n11), .val (.int n12), .val (.int n13), .val (.int n14), .val (.int n15), .val (.ref b16), .val (.int r311), .unset, .unset, .unset, .unset, .unset, .unset, .unset, .unset, .unset]) rfl at_303 (pc' := 305) rfl ?_
              refine own_lconst X310 hx hby (v := (0 : Int64)) (by decide) at_305 (pc' := 306) rfl ?_
              as_aux_lemma =>
                refine own_lstore X310 hx hby (L' := #[.val (.int p0), .val (.int p1), .val (.int p2), .val (.long p3), .second, .val (.int (1 : Int32)), .val (.int (0 : Int32)), .val (.int (2 : Int32)), .val (.int (0 : Int32)), .val (.int n5), .val (.int n6), .val (.int n7), .val (.int n8), .val (.int n9), .val (.int n10), .val (.int n11), .val (.int n12), .val (.int n13), .val (.int n14), .val (.int n15), .val (.ref b16), .val (.int r311), .val (.long (0 : Int64)), .second, .unset, .unset, .unset, .unset, .unset, .unset, .unset]) rfl at_306 (pc' := 308) rfl ?_
                refine own_iload X310 hx hby rfl at_308 (pc' := 310) rfl ?_
                refine own_iconst X310 hx hby (v := (1 : Int32)) (by decide) at_310 (pc' := 311) rfl ?_
                refine own_icF X310 hx hby at_311 (by decide) (pc' := 314) rfl ?_
                refine own_lload X310 hx hby rfl at_314 (pc' := 316) rfl ?_
                refine own_ldc2L X310 hx hby hZ hown (hw _ (List.mem_of_getElem? (i := 44) rfl)) at_316 (pc' := 319) rfl ?_
                refine own_iload X310 hx hby rfl at_319 (pc' := 321) rfl ?_
                refine own_i2l X310 hx hby rfl at_321 (pc' := 322) rfl ?_
                refine own_lmul X310 hx hby rfl at_322 (pc' := 323) rfl ?_
                refine own_iconst X310 hx hby (v := (4 : Int32)) (by decide) at_323 (pc' := 324) rfl ?_
                refine own_iload X310 hx hby rfl at_324 (pc' := 326) rfl ?_
                refine own_isub X310 hx hby rfl at_326 (pc' := 327) rfl ?_
                refine own_i2l X310 hx hby rfl at_327 (pc' := 328) rfl ?_
                refine own_ldiv X310 hx hby (own_nzL (own_4q R_n6) (own_4qd R_n6).1) rfl at_328 (pc' := 329) rfl ?_
                refine own_ladd X310 hx hby rfl at_329 (pc' := 330) rfl ?_
                generalize q_n312 : ((0 : Int64) + (((12 : Int64) * (n10.toInt64)) / (((4 : Int32) - n6).toInt64))) = n312
                refine own_lstore X310 hx hby (L' := #[.val (.int p0), .val (.int p1), .val (.int p2), .val (.long p3), .second, .val (.int (1 : Int32)), .val (.int (0 : Int32)), .val (.int (2 : Int32)), .val (.int (0 : Int32)), .val (.int n5), .val (.int n6), .val (.int n7), .val (.int n8), .val (.int n9), .val (.int n10), .val (.int n11), .val (.int n12), .val (.int n13), .val (.int n14), .val (.int n15), .val (.ref b16), .val (.int r311), .val (.long n312), .second, .unset, .unset, .unset, .unset, .unset, .unset, .unset]) rfl at_330 (pc' := 332) rfl ?_
                refine own_iload X310 hx hby rfl at_332 (pc' := 334) rfl ?_
                refine own_iconst X310 hx hby (v := (2 : Int32)) (by decide) at_334 (pc' := 335) rfl ?_
                refine own_icF X310 hx hby at_335 (by decide) (pc' := 338) rfl ?_
                refine own_lload X310 hx hby rfl at_338 (pc' := 340) rfl ?_
                refine own_ldc2L X310 hx hby hZ hown (hw _ (List.mem_of_getElem? (i := 44) rfl)) at_340 (pc' := 343) rfl ?_
                refine own_iload X310 hx hby rfl at_343 (pc' := 345) rfl ?_
                refine own_i2l X310 hx hby rfl at_345 (pc' := 346) rfl ?_
                refine own_lmul X310 hx hby rfl at_346 (pc' := 347) rfl ?_
                refine own_iconst X310 hx hby (v := (4 : Int32)) (by decide) at_347 (pc' := 348) rfl ?_
                refine own_iload X310 hx hby rfl at_348 (pc' := 350) rfl ?_
                refine own_isub X310 hx hby rfl at_350 (pc' := 351) rfl ?_
                refine own_i2l X310 hx hby rfl at_351 (pc' := 352) rfl ?_
                refine own_ldiv X310 hx hby (own_nzL (own_4q R_n7) (own_4qd R_n7).1) rfl at_352 (pc' := 353) rfl ?_
                refine own_ladd X310 hx hby rfl at_353 (pc' := 354) rfl ?_
                generalize q_n313 : (n312 + (((12 : Int64) * (n11.toInt64)) / (((4 : Int32) - n7).toInt64))) = n313
                refine own_lstore X310 hx hby (L' := #[.val (.int p0), .val (.int p1), .val (.int p2), .val (.long p3), .second, .val (.int (1 : Int32)), .val (.int (0 : Int32)), .val (.int (2 : Int32)), .val (.int (0 : Int32)), .val (.int n5), .val (.int n6), .val (.int n7), .val (.int n8), .val (.int n9), .val (.int n10), .val (.int n11), .val (.int n12), .val (.int n13), .val (.int n14), .val (.int n15), .val (.ref b16), .val (.int r311), .val (.long n313), .second, .unset, .unset, .unset, .unset, .unset, .unset, .unset]) rfl at_354 (pc' := 356) rfl ?_
                refine own_lconst X310 hx hby (v := (0 : Int64)) (by decide) at_356 (pc' := 357) rfl ?_
                refine own_lstore X310 hx hby (L' := #[.val (.int p0), .val (.int p1), .val (.int p2), .val (.long p3), .second, .val (.int (1 : Int32)), .val (.int (0 : Int32)), .val (.int (2 : Int32)), .val (.int (0 : Int32)), .val (.int n5), .val (.int n6), .val (.int n7), .val (.int n8), .val (.int n9), .val (.int n10), .val (.int n11), .val (.int n12), .val (.int n13), .val (.int n14), .val (.int n15), .val (.ref b16), .val (.int r311), .val (.long n313), .second, .val (.long (0 : Int64)), .second, .unset, .unset, .unset, .unset, .unset]) rfl at_357 (pc' := 359) rfl ?_
                refine own_iload X310 hx hby rfl at_359 (pc' := 361) rfl ?_
                refine own_iconst X310 hx hby (v := (1 : Int32)) (by decide) at_361 (pc' := 362) rfl ?_
                refine own_icT X310 hx hby at_362 (by decide) (by decide) (pc' := 381) (by decide) ?_
                refine own_iload X310 hx hby rfl at_381 (pc' := 383) rfl ?_
                refine own_iconst X310 hx hby (v := (2 : Int32)) (by decide) at_383 (pc' := 384) rfl ?_
                refine own_icT X310 hx hby at_384 (by decide) (by decide) (pc' := 403) (by decide) ?_
                refine own_iload X310 hx hby rfl at_403 (pc' := 405) rfl ?_
                refine own_ifT X310 hx hby at_405 (by decide) (by decide) (pc' := 414) (by decide) ?_
                refine own_iload X310 hx hby rfl at_414 (pc' := 416) rfl ?_
                refine own_iconst X310 hx hby (v := (1 : Int32)) (by decide) at_416 (pc' := 417) rfl ?_
                refine own_icT X310 hx hby at_417 (by decide) (by decide) (pc' := 429) (by decide) ?_
                refine own_lload X310 hx hby rfl at_429 (pc' := 431) rfl ?_
                refine own_lstore X310 hx hby (L' := #[.val (.int p0), .val (.int p1), .val (.int p2), .val (.long p3), .second, .val (.int (1 : Int32)), .val (.int (0 : Int32)), .val (.int (2 : Int32)), .val (.int (0 : Int32)), .val (.int n5), .val (.int n6), .val (.int n7), .val (.int n8), .val (.int n9), .val (.int n10), .val (.int n11), .val (.int n12), .val (.int n13), .val (.int n14), .val (.int n15), .val (.ref b16), .val (.int r311), .val (.long n313), .second, .val (.long (0 : Int64)), .second, .val (.long n313), .second, .unset, .unset, .unset]) rfl at_431 (pc' := 433) rfl ?_
                refine own_iload X310 hx hby rfl at_433 (pc' := 435) rfl ?_
                refine own_ifF X310 hx hby at_435 (by decide) (pc' := 438) rfl ?_
                refine own_ldc2L X310 hx hby hZ hown (hw _ (List.mem_of_getElem? (i := 42) rfl)) at_438 (pc' := 441) rfl ?_
                refine own_goto X310 hx hby at_441 (by decide) (pc' := 461) (by decide) ?_
                refine own_lstore X310 hx hby (L' := #[.val (.int p0), .val (.int p1), .val (.int p2), .val (.long p3), .second, .val (.int (1 : Int32)), .val (.int (0 : Int32)), .val (.int (2 : Int32)), .val (.int (0 : Int32)), .val (.int n5), .val (.int n6), .val (.int n7), .val (.int n8), .val (.int n9), .val (.int n10), .val (.int n11), .val (.int n12), .val (.int n13), .val (.int n14), .val (.int n15), .val (.ref b16), .val (.int r311), .val (.long n313), .second, .val (.long (0 : Int64)), .second, .val (.long n313), .second, .val (.long (2 : Int64)), .second, .unset]) rfl at_461 (pc' := 463) rfl ?_
                have tw_n312 := own_tw (k := n10) (own_4q R_n6) (own_4qd R_n6) (own_k10 q_n10)
                have bq_n312 := own_dq (n := (4 - n6.toInt)) (k := n10.toInt) (own_4qd R_n6) (own_k10 q_n10)
                have et_n312 : n312.toInt = (0 + 12 * n10.toInt / (4 - n6.toInt)) := own_ls q_n312 own_e0 tw_n312 (own_w3 own_b0) bq_n312
                have tw_n313 := own_tw (k := n11) (own_4q R_n7) (own_4qd R_n7) (own_k10 q_n11)
                have bq_n313 := own_dq (n := (4 - n7.toInt)) (k := n11.toInt) (own_4qd R_n7) (own_k10 q_n11)
                have et_n313 : n313.toInt = ((0 + 12 * n10.toInt / (4 - n6.toInt)) + 12 * n11.toInt / (4 - n7.toInt)) := own_ls q_n313 et_n312 tw_n313 (own_b1' bq_n312) bq_n313
                have eu := et_n313
                have ed := own_e2
                refine own_lload X310 hx hby rfl at_463 (pc' := 465) rfl ?_
                refine own_bipush X310 hx hby (v := (8 : Int32)) (by decide) at_465 (pc' := 467) rfl ?_
                refine own_iload X310 hx hby rfl at_467 (pc' := 469) rfl ?_
                refine own_isub X310 hx hby rfl at_469 (pc' := 470) rfl ?_
                refine own_i2l X310 hx hby rfl at_470 (pc' := 471) rfl ?_
                refine own_lmul X310 hx hby rfl at_471 (pc' := 472) rfl ?_
                refine own_lload X310 hx hby rfl at_472 (pc' := 474) rfl ?_
                refine own_iload X310 hx hby rfl at_474 (pc' := 476) rfl ?_
                refine own_i2l X310 hx hby rfl at_476 (pc' := 477) rfl ?_
                refine own_lmul X310 hx hby rfl at_477 (pc' := 478) rfl ?_
                generalize q_n314 : (n313 * (((8 : Int32) - n5).toInt64)) = n314
                generalize q_n315 : ((2 : Int64) * (n5.toInt64)) = n315
                refine own_lcmp X310 hx hby rfl at_478 (pc' := 479) rfl ?_
                obtain ⟨w316, q_w316⟩ : ∃ z : Int32, (if n315 < n314 then (0 : Int32) else (1 : Int32)) = z := ⟨_, rfl⟩
                refine own_join (S' := T310.setTop (mkF m 487 #[.val (.int p0), .val (.int p1), .val (.int p2), .val (.long p3), .second, .val (.int (1 : Int32)), .val (.int (0 : Int32)), .val (.int (2 : Int32)), .val (.int (0 : Int32)), .val (.int n5), .val (.int n6), .val (.int n7), .val (.int n8), .val (.int n9), .val (.int n10), .val (.int n11), .val (.int n12), .val (.int n13), .val (.int n14), .val (.int n15), .val (.ref b16), .val (.int r311), .val (.long n313), .second, .val (.long (0 : Int64)), .second, .val (.long n313), .second, .val (.long (2 : Int64)), .second, .unset] [(.int w316)])) (fun F' k' => ?_) ?_
                · rw [← q_w316] at k'
                  by_cases hc317 : n315 < n314
                  · simp only [if_pos hc317] at k'
                    refine own_ifT X310 hx hby at_479 (own_lc_gt_p hc317) (by decide) (pc' := 486) (by decide) ?_
                    refine own_iconst X310 hx hby (v := (0 : Int32)) (by decide) at_486 (pc' := 487) rfl ?_
                    exact k'
                  · simp only [if_neg hc317] at k'
                    refine own_ifF X310 hx hby at_479 (own_lc_gt_n hc317) (pc' := 482) rfl ?_
                    refine own_iconst X310 hx hby (v := (1 : Int32)) (by decide) at_482 (pc' := 483) rfl ?_
                    refine own_goto X310 hx hby at_483 (by decide) (pc' := 487) (by decide) ?_
                    exact k'
                refine own_istore X310 hx hby (L' := #[.val (.int p0), .val (.int p1), .val (.int p2), .val (.long p3), .second, .val (.int (1 : Int32)), .val (.int (0 : Int32)), .val (.int (2 : Int32)), .val (.int (0 : Int32)), .val (.int n5), .val (.int n6), .val (.int n7), .val (.int n8), .val (.int n9), .val (.int n10), .val (.int n11), .val (.int n12), .val (.int n13), .val (.int n14), .val (.int n15), .val (.ref b16), .val (.int r311), .val (.long n313), .second, .val (.long (0 : Int64)), .second, .val (.long n313), .second, .val (.long (2 : Int64)), .second, .val (.int w316)]) rfl at_487 (pc' := 489) rfl ?_
                refine own_iload X310 hx hby rfl at_489 (pc' := 491) rfl ?_
                refine own_iload X310 hx hby rfl at_491 (pc' := 493) rfl ?_
                have hk318 : r311 = w316 := own_fin SD.2.2.2 R9 (own_t1 (own_b2 b_v302 b_v307)) own_tz eu ed q_r311 q_n314 q_n315 q_w316
                refine own_icF X310 hx hby at_493 (own_ic_ne_p hk318) (pc' := 496) rfl ?_
                refine own_iconst X310 hx hby (v := (1 : Int32)) (by decide) at_496 (pc' := 497) rfl ?_
                refine own_goto X310 hx hby at_497 (by decide) (pc' := 501) (by decide) ?_
                exact own_retZ X310 hx hby Bd.notSynchronized Bd.returns (Or.inr rfl) at_501 (by decide) (by decide) eH310 ⟨rfl, N310⟩
            · as_aux_lemma =>
                refine own_iload X306 hx hby rfl at_237 (pc' := 239) rfl ?_
                refine own_iconst X306 hx hby (v := (1 : Int32)) (by decide) at_239 (pc' := 240) rfl ?_
                refine own_icF X306 hx hby at_240 (by decide) (pc' := 243) rfl ?_
                refine own_aload X306 hx hby rfl rfl at_243 (pc' := 245) rfl ?_
                refine own_iload X306 hx hby rfl at_245 (pc' := 247) rfl ?_
                refine own_iconst X306 hx hby (v := (0 : Int32)) (by decide) at_247 (pc' := 248) rfl ?_
                refine own_iload X306 hx hby rfl at_248 (pc' := 250) rfl ?_
                obtain ⟨v319, q_v319⟩ : ∃ z : UInt64, (FP.i2d n8) = z := ⟨_, rfl⟩
                have D_v319 : Dy v319 n8.toInt 0 := q_v319 ▸ dy_i2d n8
                refine own_i2d X306 hx hby q_v319 at_250 (pc' := 251) rfl ?_
                refine own_ldc2D X306 hx hby hZ hown (hw _ (List.mem_of_getElem? (i := 43) rfl)) at_251 (pc' := 254) rfl ?_
                obtain ⟨v320, q_v320⟩ : ∃ z : UInt64, (FP.ddiv v319 (4616189618054758400 : UInt64)) = z := ⟨_, rfl⟩
                have R_n8 := own_q3r q_n8
                have D_v320 : Dy v320 n8.toInt 2 := own_div4 q_v320 D_v319 R_n8
                have nn_v320 := D_v320.nn
                refine own_ddiv X306 hx hby (by rw [q_v320]; exact nn_v320) q_v320 at_254 (pc' := 255) rfl ?_
                refine own_iconst X306 hx hby (v := (3 : Int32)) (by decide) at_255 (pc' := 256) rfl ?_
                refine own_iload X306 hx hby rfl at_256 (pc' := 258) rfl ?_
                refine own_imul X306 hx hby rfl at_258 (pc' := 259) rfl ?_
                obtain ⟨v321, q_v321⟩ : ∃ z : UInt64, (FP.i2d ((3 : Int32) * n12)) = z := ⟨_, rfl⟩
                have D_v321 : Dy v321 (3 * n12.toInt) 0 := q_v321 ▸ (dy_i2d ((3 : Int32) * n12)).to (own_3k (own_k10 q_n12))
                refine own_i2d X306 hx hby q_v321 at_259 (pc' := 260) rfl ?_
                have LU260g := own_g D_v320 R_n8
                have LU260 := own_dn D_v320 R_n8 D_v321 (own_k10 q_n12) own_d0 own_b0
                refine own_virtual X306 hx hby hZ (y := (⟨"com/example/bidfold/bidfold/Branching", "learn", "(IZDD)V"⟩ : MethodName)) (y' := (⟨"com/example/bidfold/bidfold/Branching", "learn", "(IZDD)V"⟩ : MethodName)) (C := "com/example/bidfold/bidfold/Branching") (rest := []) hown (hw _ (List.mem_of_getElem? (i := 26) rfl)) (hw _ (List.mem_of_getElem? (i := 27) rfl)) (notFace_of_selects (args := #[]) (mvT hZ (hw _ (List.mem_of_getElem? (i := 29) rfl)))) (hw _ (List.mem_of_getElem? (i := 29) rfl)) (hw _ (List.mem_of_getElem? (i := 28) rfl)) (hw _ (List.mem_of_getElem? (i := 30) rfl)) (hw _ (List.mem_of_getElem? (i := 2) rfl)) (by decide) (rm310 l Z a0 hw [] b16 v320 v321 b4_17 b6_17 v194 (0 : UInt64) (1 : Int32) (0 : Int32) h306 n0 Z0 F_b16_downFalls F_b16_downCounts V_b4_17 V_b6_17 LU260g.1 LU260g.2 LU260.1 LU260.2.1 g_b4_17 ne_b16_b4_17 (Ne.symm ne_b4_17_b6_17) g_b6_17 ne_b16_b6_17) eH306 (by rw [hml]; rfl) (a := b16) E_b16 (argsL := [(.int (1 : Int32)), (.int (0 : Int32)), (.double v320), (.double v321)]) rfl (lenOf pd_2 rfl) rfl at_260 (pc' := 263) rfl (by decide) (W := 0) (Nat.le_of_eq rfl) (by decide) (by decide) (by decide) (fun T322 h322 Lc322 v322r X322 eH322 hQ322 => ?_)
                obtain ⟨rfl, Nq322, Kq322, gq322_0, gq322_1⟩ := hQ322
                have N322 := Fr.app N306 Nq322
                replace E_b16 := E_b16.keep Kq322
                replace F_b16_downFalls := F_b16_downFalls.keep Kq322 (ninS ne_b16_b4_17 (ninS ne_b16_b6_17 nin0))
                replace F_b16_downCounts := F_b16_downCounts.keep Kq322 (ninS ne_b16_b4_17 (ninS ne_b16_b6_17 nin0))
                replace F_b16_upFalls := F_b16_upFalls.keep Kq322 (ninS ne_b16_b4_17 (ninS ne_b16_b6_17 nin0))
                replace F_b16_upCounts := F_b16_upCounts.keep Kq322 (ninS ne_b16_b4_17 (ninS ne_b16_b6_17 nin0))
                replace E_b4_17 := E_b4_17.keep Kq322
                replace E_b6_17 := E_b6_17.keep Kq322
                replace E_b8_17 := E_b8_17.keep Kq322
                replace V_b8_17 := V_b8_17.keep Kq322 (ninS (Ne.symm ne_b4_17_b8_17) (ninS (Ne.symm ne_b6_17_b8_17) nin0))
                replace E_b10_17 := E_b10_17.keep Kq322
                replace V_b10_17 := V_b10_17.keep Kq322 (ninS (Ne.symm ne_b4_17_b10_17) (ninS (Ne.symm ne_b6_17_b10_17) nin0))
                obtain ⟨v323, q_v323⟩ : ∃ z : UInt64, (FP.dadd (0 : UInt64) (FP.ddiv v321 v320)) = z := ⟨_, rfl⟩
                have V_b4_17 : Ary tr Z h322 b4_17 .double [(.double v194), (.double v323)] := by rw [← q_v323]; exact gq322_0
                rw [show ((0 : Int32) + (1 : Int32)) = (1 : Int32) from by decide] at gq322_1
                have V_b6_17 := gq322_1
                replace Z0 := Nat.le_trans Z0 Kq322.1
                have S_v323 : Dy v323 (0 + 12 * n12.toInt / n8.toInt) 0 := by have q := LU260.2.2; rwa [q_v323] at q
                have b_v323 := own_dq (n := n8.toInt) (k := n12.toInt) R_n8 (own_k10 q_n12)
                refine own_iload X322 hx hby rfl at_263 (pc' := 265) rfl ?_
                refine own_iconst X322 hx hby (v := (2 : Int32)) (by decide) at_265 (pc' := 266) rfl ?_
                refine own_icT X322 hx hby at_266 (by decide) (by decide) (pc' := 289) (by decide) ?_
                refine own_aload X322 hx hby rfl rfl at_289 (pc' := 291) rfl ?_
                refine own_iload X322 hx hby rfl at_291 (pc' := 293) rfl ?_
                refine own_iload X322 hx hby rfl at_293 (pc' := 295) rfl ?_
                obtain ⟨v324, q_v324⟩ : ∃ z : UInt64, (FP.i2d n5) = z := ⟨_, rfl⟩
                have D_v324 : Dy v324 n5.toInt 0 := q_v324 ▸ dy_i2d n5
                refine own_i2d X322 hx hby q_v324 at_295 (pc' := 296) rfl ?_
                refine own_ldc2D X322 hx hby hZ hown (hw _ (List.mem_of_getElem? (i := 33) rfl)) at_296 (pc' := 299) rfl ?_
                obtain ⟨v325, q_v325⟩ : ∃ z : UInt64, (FP.ddiv v324 (4620693217682128896 : UInt64)) = z := ⟨_, rfl⟩
                have R9 := own_r9 q_n5
                have D_v325 : Dy v325 n5.toInt 3 := own_div8 q_v325 D_v324 R9
                have nn_v325 := D_v325.nn
                refine own_ddiv X322 hx hby (by rw [q_v325]; exact nn_v325) q_v325 at_299 (pc' := 300) rfl ?_
                have MA0 := own_f2 S_v307 (own_b2 b_v302 b_v307)
                have MA := own_ifp (p := 0 < (2 : Int32)) (by decide) (y := (4607182418800017408 : UInt64)) MA0
                have MB0 := own_f1 S_v323 (own_b1' b_v323)
                have MB := own_ifp (p := 0 < (1 : Int32)) (by decide) (y := (4607182418800017408 : UInt64)) MB0
                have SD := own_sides MA MB (own_t1 (own_b2 b_v302 b_v307)) (own_t2 (own_b1' b_v323)) D_v325 R9
                refine own_virtual X322 hx hby hZ (y := (⟨"com/example/bidfold/bidfold/Branching", "leansIn", "(ID)Z"⟩ : MethodName)) (y' := (⟨"com/example/bidfold/bidfold/Branching", "leansIn", "(ID)Z"⟩ : MethodName)) (C := "com/example/bidfold/bidfold/Branching") (rest := []) hown (hw _ (List.mem_of_getElem? (i := 34) rfl)) (hw _ (List.mem_of_getElem? (i := 35) rfl)) (notFace_of_selects (args := #[]) (mvT hZ (hw _ (List.mem_of_getElem? (i := 37) rfl)))) (hw _ (List.mem_of_getElem? (i := 37) rfl)) (hw _ (List.mem_of_getElem? (i := 36) rfl)) (hw _ (List.mem_of_getElem? (i := 38) rfl)) (hw _ (List.mem_of_getElem? (i := 2) rfl)) (by decide) (rm41 l Z a0 hw [] b16 v325 b8_17 b10_17 v191 v307 (1 : Int32) (2 : Int32) b4_17 b6_17 v194 v323 (1 : Int32) (1 : Int32) h322 n0 Z0 F_b16_upFalls F_b16_upCounts V_b8_17 V_b10_17 F_b16_downFalls F_b16_downCounts V_b4_17 V_b6_17 (fun _ => MA0.nn) SD.1 SD.2.1 (fun _ => MB0.nn) SD.2.2.1) eH322 (by rw [hml]; rfl) (a := b16) E_b16 (argsL := [(.int (1 : Int32)), (.double v325)]) rfl (lenOf pd_3 rfl) rfl at_300 (pc' := 303) rfl (by decide) (W := 0) (Nat.le_of_eq rfl) (by decide) (by decide) (by decide) (fun T326 h326 Lc326 v326r X326 eH326 hQ326 => ?_)
                obtain ⟨rfl, Nq326, rfl⟩ := hQ326
                have N326 := Fr.app N322 Nq326
                dsimp only [Option.toList, List.cons_append, List.nil_append]
                generalize q_r327 : (if dle (FP.dmul (if 0 < (2 : Int32) then (FP.ddiv v307 (FP.i2d (2 : Int32))) else (4607182418800017408 : UInt64)) (FP.dsub (4607182418800017408 : UInt64) v325)) (FP.dmul (if 0 < (1 : Int32) then (FP.ddiv v323 (FP.i2d (1 : Int32))) else (4607182418800017408 : UInt64)) v325) then (1 : Int32) else (0 : Int32)) = r327
                refine own_istore X326 hx hby (L' := #[.val (.int p0), .val (.int p1), .val (.int p2), .val (.long p3), .second, .val (.int (1 : Int32)), .val (.int (0 : Int32)), .val (.int (2 : Int32)), .val (.int (1 : Int32)), .val (.int n5), .val (.int n6), .val (.int n7), .val (.int n8), .val (.int n9), .val (.int n10), .val (.int n11), .val (.int n12), .val (.int n13), .val (.int n14), .val (.int n15), .val (.ref b16), .val (.int r327), .unset, .unset, .unset, .unset, .unset, .unset, .unset, .unset, .unset]) rfl at_303 (pc' := 305) rfl ?_
                refine own_lconst X326 hx hby (v := (0 : Int64)) (by decide) at_305 (pc' := 306) rfl ?_
                refine own_lstore X326 hx hby (L' := #[.val (.int p0), .val (.int p1), .val (.int p2), .val (.long p3), .second, .val (.int (1 : Int32)), .val (.int (0 : Int32)), .val (.int (2 : Int32)), .val (.int (1 : Int32)), .val (.int n5), .val (.int n6), .val (.int n7), .val (.int n8), .val (.int n9), .val (.int n10), .val (.int n11), .val (.int n12), .val (.int n13), .val (.int n14), .val (.int n15), .val (.ref b16), .val (.int r327), .val (.long (0 : Int64)), .second, .unset, .unset, .unset, .unset, .unset, .unset, .unset]) rfl at_306 (pc' := 308) rfl ?_
                refine own_iload X326 hx hby rfl at_308 (pc' := 310) rfl ?_
                refine own_iconst X326 hx hby (v := (1 : Int32)) (by decide) at_310 (pc' := 311) rfl ?_
                refine own_icF X326 hx hby at_311 (by decide) (pc' := 314) rfl ?_
                refine own_lload X326 hx hby rfl at_314 (pc' := 316) rfl ?_
                refine own_ldc2L X326 hx hby hZ hown (hw _ (List.mem_of_getElem? (i := 44) rfl)) at_316 (pc' := 319) rfl ?_
                refine own_iload X326 hx hby rfl at_319 (pc' := 321) rfl ?_
                refine own_i2l X326 hx hby rfl at_321 (pc' := 322) rfl ?_
                refine own_lmul X326 hx hby rfl at_322 (pc' := 323) rfl ?_
                refine own_iconst X326 hx hby (v := (4 : Int32)) (by decide) at_323 (pc' := 324) rfl ?_
                refine own_iload X326 hx hby rfl at_324 (pc' := 326) rfl ?_
                refine own_isub X326 hx hby rfl at_326 (pc' := 327) rfl ?_
                refine own_i2l X326 hx hby rfl at_327 (pc' := 328) rfl ?_
                refine own_ldiv X326 hx hby (own_nzL (own_4q R_n6) (own_4qd R_n6).1) rfl at_328 (pc' := 329) rfl ?_
                refine own_ladd X326 hx hby rfl at_329 (pc' := 330) rfl ?_
                generalize q_n328 : ((0 : Int64) + (((12 : Int64) * (n10.toInt64)) / (((4 : Int32) - n6).toInt64))) = n328
                refine own_lstore X326 hx hby (L' := #[.val (.int p0), .val (.int p1), .val (.int p2), .val (.long p3), .second, .val (.int (1 : Int32)), .val (.int (0 : Int32)), .val (.int (2 : Int32)), .val (.int (1 : Int32)), .val (.int n5), .val (.int n6), .val (.int n7), .val (.int n8), .val (.int n9), .val (.int n10), .val (.int n11), .val (.int n12), .val (.int n13), .val (.int n14), .val (.int n15), .val (.ref b16), .val (.int r327), .val (.long n328), .second, .unset, .unset, .unset, .unset, .unset, .unset, .unset]) rfl at_330 (pc' := 332) rfl ?_
                refine own_iload X326 hx hby rfl at_332 (pc' := 334) rfl ?_
                refine own_iconst X326 hx hby (v := (2 : Int32)) (by decide) at_334 (pc' := 335) rfl ?_
                refine own_icF X326 hx hby at_335 (by decide) (pc' := 338) rfl ?_
                refine own_lload X326 hx hby rfl at_338 (pc' := 340) rfl ?_
                refine own_ldc2L X326 hx hby hZ hown (hw _ (List.mem_of_getElem? (i := 44) rfl)) at_340 (pc' := 343) rfl ?_
                refine own_iload X326 hx hby rfl at_343 (pc' := 345) rfl ?_
                refine own_i2l X326 hx hby rfl at_345 (pc' := 346) rfl ?_
                refine own_lmul X326 hx hby rfl at_346 (pc' := 347) rfl ?_
                refine own_iconst X326 hx hby (v := (4 : Int32)) (by decide) at_347 (pc' := 348) rfl ?_
                refine own_iload X326 hx hby rfl at_348 (pc' := 350) rfl ?_
                refine own_isub X326 hx hby rfl at_350 (pc' := 351) rfl ?_
                refine own_i2l X326 hx hby rfl at_351 (pc' := 352) rfl ?_
                refine own_ldiv X326 hx hby (own_nzL (own_4q R_n7) (own_4qd R_n7).1) rfl at_352 (pc' := 353) rfl ?_
                refine own_ladd X326 hx hby rfl at_353 (pc' := 354) rfl ?_
                generalize q_n329 : (n328 + (((12 : Int64) * (n11.toInt64)) / (((4 : Int32) - n7).toInt64))) = n329
                refine own_lstore X326 hx hby (L' := #[.val (.int p0), .val (.int p1), .val (.int p2), .val (.long p3), .second, .val (.int (1 : Int32)), .val (.int (0 : Int32)), .val (.int (2 : Int32)), .val (.int (1 : Int32)), .val (.int n5), .val (.int n6), .val (.int n7), .val (.int n8), .val (.int n9), .val (.int n10), .val (.int n11), .val (.int n12), .val (.int n13), .val (.int n14), .val (.int n15), .val (.ref b16), .val (.int r327), .val (.long n329), .second, .unset, .unset, .unset, .unset, .unset, .unset, .unset]) rfl at_354 (pc' := 356) rfl ?_
                refine own_lconst X326 hx hby (v := (0 : Int64)) (by decide) at_356 (pc' := 357) rfl ?_
                refine own_lstore X326 hx hby (L' := #[.val (.int p0), .val (.int p1), .val (.int p2), .val (.long p3), .second, .val (.int (1 : Int32)), .val (.int (0 : Int32)), .val (.int (2 : Int32)), .val (.int (1 : Int32)), .val (.int n5), .val (.int n6), .val (.int n7), .val (.int n8), .val (.int n9), .val (.int n10), .val (.int n11), .val (.int n12), .val (.int n13), .val (.int n14), .val (.int n15), .val (.ref b16), .val (.int r327), .val (.long n329), .second, .val (.long (0 : Int64)), .second, .unset, .unset, .unset, .unset, .unset]) rfl at_357 (pc' := 359) rfl ?_
                refine own_iload X326 hx hby rfl at_359 (pc' := 361) rfl ?_
                refine own_iconst X326 hx hby (v := (1 : Int32)) (by decide) at_361 (pc' := 362) rfl ?_
                refine own_icF X326 hx hby at_362 (by decide) (pc' := 365) rfl ?_
                refine own_lload X326 hx hby rfl at_365 (pc' := 367) rfl ?_
                refine own_ldc2L X326 hx hby hZ hown (hw _ (List.mem_of_getElem? (i := 44) rfl)) at_367 (pc' := 370) rfl ?_
                refine own_iload X326 hx hby rfl at_370 (pc' := 372) rfl ?_
                refine own_i2l X326 hx hby rfl at_372 (pc' := 373) rfl ?_
                refine own_lmul X326 hx hby rfl at_373 (pc' := 374) rfl ?_
                refine own_iload X326 hx hby rfl at_374 (pc' := 376) rfl ?_
                refine own_i2l X326 hx hby rfl at_376 (pc' := 377) rfl ?_
                refine own_ldiv X326 hx hby (own_nzL (c_i2l n8) R_n8.1) rfl at_377 (pc' := 378) rfl ?_
                refine own_ladd X326 hx hby rfl at_378 (pc' := 379) rfl ?_
                generalize q_n330 : ((0 : Int64) + (((12 : Int64) * (n12.toInt64)) / (n8.toInt64))) = n330
                refine own_lstore X326 hx hby (L' := #[.val (.int p0), .val (.int p1), .val (.int p2), .val (.long p3), .second, .val (.int (1 : Int32)), .val (.int (0 : Int32)), .val (.int (2 : Int32)), .val (.int (1 : Int32)), .val (.int n5), .val (.int n6), .val (.int n7), .val (.int n8), .val (.int n9), .val (.int n10), .val (.int n11), .val (.int n12), .val (.int n13), .val (.int n14), .val (.int n15), .val (.ref b16), .val (.int r327), .val (.long n329), .second, .val (.long n330), .second, .unset, .unset, .unset, .unset, .unset]) rfl at_379 (pc' := 381) rfl ?_
                as_aux_lemma =>
                  refine own_iload X326 hx hby rfl at_381 (pc' := 383) rfl ?_
                  refine own_iconst X326 hx hby (v := (2 : Int32)) (by decide) at_383 (pc' := 384) rfl ?_
                  refine own_icT X326 hx hby at_384 (by decide) (by decide) (pc' := 403) (by decide) ?_
                  refine own_iload X326 hx hby rfl at_403 (pc' := 405) rfl ?_
                  refine own_ifT X326 hx hby at_405 (by decide) (by decide) (pc' := 414) (by decide) ?_
                  refine own_iload X326 hx hby rfl at_414 (pc' := 416) rfl ?_
                  refine own_iconst X326 hx hby (v := (1 : Int32)) (by decide) at_416 (pc' := 417) rfl ?_
                  refine own_icT X326 hx hby at_417 (by decide) (by decide) (pc' := 429) (by decide) ?_
                  refine own_lload X326 hx hby rfl at_429 (pc' := 431) rfl ?_
                  refine own_lstore X326 hx hby (L' := #[.val (.int p0), .val (.int p1), .val (.int p2), .val (.long p3), .second, .val (.int (1 : Int32)), .val (.int (0 : Int32)), .val (.int (2 : Int32)), .val (.int (1 : Int32)), .val (.int n5), .val (.int n6), .val (.int n7), .val (.int n8), .val (.int n9), .val (.int n10), .val (.int n11), .val (.int n12), .val (.int n13), .val (.int n14), .val (.int n15), .val (.ref b16), .val (.int r327), .val (.long n329), .second, .val (.long n330), .second, .val (.long n329), .second, .unset, .unset, .unset]) rfl at_431 (pc' := 433) rfl ?_
                  refine own_iload X326 hx hby rfl at_433 (pc' := 435) rfl ?_
                  refine own_ifT X326 hx hby at_435 (by decide) (by decide) (pc' := 444) (by decide) ?_
                  refine own_iload X326 hx hby rfl at_444 (pc' := 446) rfl ?_
                  refine own_iconst X326 hx hby (v := (1 : Int32)) (by decide) at_446 (pc' := 447) rfl ?_
                  refine own_icF X326 hx hby at_447 (by decide) (pc' := 450) rfl ?_
                  refine own_ldc2L X326 hx hby hZ hown (hw _ (List.mem_of_getElem? (i := 42) rfl)) at_450 (pc' := 453) rfl ?_
                  refine own_lload X326 hx hby rfl at_453 (pc' := 455) rfl ?_
                  refine own_lmul X326 hx hby rfl at_455 (pc' := 456) rfl ?_
                  refine own_goto X326 hx hby at_456 (by decide) (pc' := 461) (by decide) ?_
                  generalize q_n331 : ((2 : Int64) * n330) = n331
                  refine own_lstore X326 hx hby (L' := #[.val (.int p0), .val (.int p1), .val (.int p2), .val (.long p3), .second, .val (.int (1 : Int32)), .val (.int (0 : Int32)), .val (.int (2 : Int32)), .val (.int (1 : Int32)), .val (.int n5), .val (.int n6), .val (.int n7), .val (.int n8), .val (.int n9), .val (.int n10), .val (.int n11), .val (.int n12), .val (.int n13), .val (.int n14), .val (.int n15), .val (.ref b16), .val (.int r327), .val (.long n329), .second, .val (.long n330), .second, .val (.long n329), .second, .val (.long n331), .second, .unset]) rfl at_461 (pc' := 463) rfl ?_
                  have tw_n328 := own_tw (k := n10) (own_4q R_n6) (own_4qd R_n6) (own_k10 q_n10)
                  have bq_n328 := own_dq (n := (4 - n6.toInt)) (k := n10.toInt) (own_4qd R_n6) (own_k10 q_n10)
                  have et_n328 : n328.toInt = (0 + 12 * n10.toInt / (4 - n6.toInt)) := own_ls q_n328 own_e0 tw_n328 (own_w3 own_b0) bq_n328
                  have tw_n329 := own_tw (k := n11) (own_4q R_n7) (own_4qd R_n7) (own_k10 q_n11)
                  have bq_n329 := own_dq (n := (4 - n7.toInt)) (k := n11.toInt) (own_4qd R_n7) (own_k10 q_n11)
                  have et_n329 : n329.toInt = ((0 + 12 * n10.toInt / (4 - n6.toInt)) + 12 * n11.toInt / (4 - n7.toInt)) := own_ls q_n329 et_n328 tw_n329 (own_b1' bq_n328) bq_n329
                  have eu := et_n329
                  have tw_n330 := own_tw (k := n12) (c_i2l n8) R_n8 (own_k10 q_n12)
                  have bq_n330 := own_dq (n := n8.toInt) (k := n12.toInt) R_n8 (own_k10 q_n12)
                  have et_n330 : n330.toInt = (0 + 12 * n12.toInt / n8.toInt) := own_ls q_n330 own_e0 tw_n330 (own_w3 own_b0) bq_n330
                  have ed : n331.toInt = 2 * (0 + 12 * n12.toInt / n8.toInt) := own_l2 q_n331 et_n330 (own_b1' bq_n330)
                  refine own_lload X326 hx hby rfl at_463 (pc' := 465) rfl ?_
                  refine own_bipush X326 hx hby (v := (8 : Int32)) (by decide) at_465 (pc' := 467) rfl ?_
                  refine own_iload X326 hx hby rfl at_467 (pc' := 469) rfl ?_
                  refine own_isub X326 hx hby rfl at_469 (pc' := 470) rfl ?_
                  refine own_i2l X326 hx hby rfl at_470 (pc' := 471) rfl ?_
                  refine own_lmul X326 hx hby rfl at_471 (pc' := 472) rfl ?_
                  refine own_lload X326 hx hby rfl at_472 (pc' := 474) rfl ?_
                  refine own_iload X326 hx hby rfl at_474 (pc' := 476) rfl ?_
                  refine own_i2l X326 hx hby rfl at_476 (pc' := 477) rfl ?_
                  refine own_lmul X326 hx hby rfl at_477 (pc' := 478) rfl ?_
                  generalize q_n332 : (n329 * (((8 : Int32) - n5).toInt64)) = n332
                  generalize q_n333 : (n331 * (n5.toInt64)) = n333
                  refine own_lcmp X326 hx hby rfl at_478 (pc' := 479) rfl ?_
                  obtain ⟨w334, q_w334⟩ : ∃ z : Int32, (if n333 < n332 then (0 : Int32) else (1 : Int32)) = z := ⟨_, rfl⟩
                  refine own_join (S' := T326.setTop (mkF m 487 #[.val (.int p0), .val (.int p1), .val (.int p2), .val (.long p3), .second, .val (.int (1 : Int32)), .val (.int (0 : Int32)), .val (.int (2 : Int32)), .val (.int (1 : Int32)), .val (.int n5), .val (.int n6), .val (.int n7), .val (.int n8), .val (.int n9), .val (.int n10), .val (.int n11), .val (.int n12), .val (.int n13), .val (.int n14), .val (.int n15), .val (.ref b16), .val (.int r327), .val (.long n329), .second, .val (.long n330), .second, .val (.long n329), .second, .val (.long n331), .second, .unset] [(.int w334)])) (fun F' k' => ?_) ?_
                  · rw [← q_w334] at k'
                    by_cases hc335 : n333 < n332
                    · simp only [if_pos hc335] at k'
                      refine own_ifT X326 hx hby at_479 (own_lc_gt_p hc335) (by decide) (pc' := 486) (by decide) ?_
                      refine own_iconst X326 hx hby (v := (0 : Int32)) (by decide) at_486 (pc' := 487) rfl ?_
                      exact k'
                    · simp only [if_neg hc335] at k'
                      refine own_ifF X326 hx hby at_479 (own_lc_gt_n hc335) (pc' := 482) rfl ?_
                      refine own_iconst X326 hx hby (v := (1 : Int32)) (by decide) at_482 (pc' := 483) rfl ?_
                      refine own_goto X326 hx hby at_483 (by decide) (pc' := 487) (by decide) ?_
                      exact k'
                  refine own_istore X326 hx hby (L' := #[.val (.int p0), .val (.int p1), .val (.int p2), .val (.long p3), .second, .val (.int (1 : Int32)), .val (.int (0 : Int32)), .val (.int (2 : Int32)), .val (.int (1 : Int32)), .val (.int n5), .val (.int n6), .val (.int n7), .val (.int n8), .val (.int n9), .val (.int n10), .val (.int n11), .val (.int n12), .val (.int n13), .val (.int n14), .val (.int n15), .val (.ref b16), .val (.int r327), .val (.long n329), .second, .val (.long n330), .second, .val (.long n329), .second, .val (.long n331), .second, .val (.int w334)]) rfl at_487 (pc' := 489) rfl ?_
                  refine own_iload X326 hx hby rfl at_489 (pc' := 491) rfl ?_
                  refine own_iload X326 hx hby rfl at_491 (pc' := 493) rfl ?_
                  have hk336 : r327 = w334 := own_fin SD.2.2.2 R9 (own_t1 (own_b2 b_v302 b_v307)) (own_t2 (own_b1' b_v323)) eu ed q_r327 q_n332 q_n333 q_w334
                  refine own_icF X326 hx hby at_493 (own_ic_ne_p hk336) (pc' := 496) rfl ?_
                  refine own_iconst X326 hx hby (v := (1 : Int32)) (by decide) at_496 (pc' := 497) rfl ?_
                  refine own_goto X326 hx hby at_497 (by decide) (pc' := 501) (by decide) ?_
                  exact own_retZ X326 hx hby Bd.notSynchronized Bd.returns (Or.inr rfl) at_501 (by decide) (by decide) eH326 ⟨rfl, N326⟩
            · as_aux_lemma =>
                refine own_iload X306 hx hby rfl at_237 (pc' := 239) rfl ?_
                refine own_iconst X306 hx hby (v := (1 : Int32)) (by decide) at_239 (pc' := 240) rfl ?_
                refine own_icF X306 hx hby at_240 (by decide) (pc' := 243) rfl ?_
                refine own_aload X306 hx hby rfl rfl at_243 (pc' := 245) rfl ?_
                refine own_iload X306 hx hby rfl at_245 (pc' := 247) rfl ?_
                refine own_iconst X306 hx hby (v := (0 : Int32)) (by decide) at_247 (pc' := 248) rfl ?_
                refine own_iload X306 hx hby rfl at_248 (pc' := 250) rfl ?_
                obtain ⟨v337, q_v337⟩ : ∃ z : UInt64, (FP.i2d n8) = z := ⟨_, rfl⟩
                have D_v337 : Dy v337 n8.toInt 0 := q_v337 ▸ dy_i2d n8
                refine own_i2d X306 hx hby q_v337 at_250 (pc' := 251) rfl ?_
                refine own_ldc2D X306 hx hby hZ hown (hw _ (List.mem_of_getElem? (i := 43) rfl)) at_251 (pc' := 254) rfl ?_
                obtain ⟨v338, q_v338⟩ : ∃ z : UInt64, (FP.ddiv v337 (4616189618054758400 : UInt64)) = z := ⟨_, rfl⟩
                have R_n8 := own_q3r q_n8
                have D_v338 : Dy v338 n8.toInt 2 := own_div4 q_v338 D_v337 R_n8
                have nn_v338 := D_v338.nn
                refine own_ddiv X306 hx hby (by rw [q_v338]; exact nn_v338) q_v338 at_254 (pc' := 255) rfl ?_
                refine own_iconst X306 hx hby (v := (3 : Int32)) (by decide) at_255 (pc' := 256) rfl ?_
                refine own_iload X306 hx hby rfl at_256 (pc' := 258) rfl ?_
                refine own_imul X306 hx hby rfl at_258 (pc' := 259) rfl ?_
                obtain ⟨v339, q_v339⟩ : ∃ z : UInt64, (FP.i2d ((3 : Int32) * n12)) = z := ⟨_, rfl⟩
                have D_v339 : Dy v339 (3 * n12.toInt) 0 := q_v339 ▸ (dy_i2d ((3 : Int32) * n12)).to (own_3k (own_k10 q_n12))
                refine own_i2d X306 hx hby q_v339 at_259 (pc' := 260) rfl ?_
                have LU260g := own_g D_v338 R_n8
                have LU260 := own_dn D_v338 R_n8 D_v339 (own_k10 q_n12) own_d0 own_b0
                refine own_virtual X306 hx hby hZ (y := (⟨"com/example/bidfold/bidfold/Branching", "learn", "(IZDD)V"⟩ : MethodName)) (y' := (⟨"com/example/bidfold/bidfold/Branching", "learn", "(IZDD)V"⟩ : MethodName)) (C := "com/example/bidfold/bidfold/Branching") (rest := []) hown (hw _ (List.mem_of_getElem? (i := 26) rfl)) (hw _ (List.mem_of_getElem? (i := 27) rfl)) (notFace_of_selects (args := #[]) (mvT hZ (hw _ (List.mem_of_getElem? (i := 29) rfl)))) (hw _ (List.mem_of_getElem? (i := 29) rfl)) (hw _ (List.mem_of_getElem? (i := 28) rfl)) (hw _ (List.mem_of_getElem? (i := 30) rfl)) (hw _ (List.mem_of_getElem? (i := 2) rfl)) (by decide) (rm310 l Z a0 hw [] b16 v338 v339 b4_17 b6_17 v194 (0 : UInt64) (1 : Int32) (0 : Int32) h306 n0 Z0 F_b16_downFalls F_b16_downCounts V_b4_17 V_b6_17 LU260g.1 LU260g.2 LU260.1 LU260.2.1 g_b4_17 ne_b16_b4_17 (Ne.symm ne_b4_17_b6_17) g_b6_17 ne_b16_b6_17) eH306 (by rw [hml]; rfl) (a := b16) E_b16 (argsL := [(.int (1 : Int32)), (.int (0 : Int32)), (.double v338), (.double v339)]) rfl (lenOf pd_2 rfl) rfl at_260 (pc' := 263) rfl (by decide) (W := 0) (Nat.le_of_eq rfl) (by decide) (by decide) (by decide) (fun T340 h340 Lc340 v340r X340 eH340 hQ340 => ?_)
                obtain ⟨rfl, Nq340, Kq340, gq340_0, gq340_1⟩ := hQ340
                have N340 := Fr.app N306 Nq340
                replace E_b16 := E_b16.keep Kq340
                replace F_b16_downFalls := F_b16_downFalls.keep Kq340 (ninS ne_b16_b4_17 (ninS ne_b16_b6_17 nin0))
                replace F_b16_downCounts := F_b16_downCounts.keep Kq340 (ninS ne_b16_b4_17 (ninS ne_b16_b6_17 nin0))
                replace F_b16_upFalls := F_b16_upFalls.keep Kq340 (ninS ne_b16_b4_17 (ninS ne_b16_b6_17 nin0))
                replace F_b16_upCounts := F_b16_upCounts.keep Kq340 (ninS ne_b16_b4_17 (ninS ne_b16_b6_17 nin0))
                replace E_b4_17 := E_b4_17.keep Kq340
                replace E_b6_17 := E_b6_17.keep Kq340
                replace E_b8_17 := E_b8_17.keep Kq340
                replace V_b8_17 := V_b8_17.keep Kq340 (ninS (Ne.symm ne_b4_17_b8_17) (ninS (Ne.symm ne_b6_17_b8_17) nin0))
                replace E_b10_17 := E_b10_17.keep Kq340
                replace V_b10_17 := V_b10_17.keep Kq340 (ninS (Ne.symm ne_b4_17_b10_17) (ninS (Ne.symm ne_b6_17_b10_17) nin0))
                obtain ⟨v341, q_v341⟩ : ∃ z : UInt64, (FP.dadd (0 : UInt64) (FP.ddiv v339 v338)) = z := ⟨_, rfl⟩
                have V_b4_17 : Ary tr Z h340 b4_17 .double [(.double v194), (.double v341)] := by rw [← q_v341]; exact gq340_0
                rw [show ((0 : Int32) + (1 : Int32)) = (1 : Int32) from by decide] at gq340_1
                have V_b6_17 := gq340_1
                replace Z0 := Nat.le_trans Z0 Kq340.1
                have S_v341 : Dy v341 (0 + 12 * n12.toInt / n8.toInt) 0 := by have q := LU260.2.2; rwa [q_v341] at q
                have b_v341 := own_dq (n := n8.toInt) (k := n12.toInt) R_n8 (own_k10 q_n12)
                refine own_iload X340 hx hby rfl at_263 (pc' := 265) rfl ?_
                refine own_iconst X340 hx hby (v := (2 : Int32)) (by decide) at_265 (pc' := 266) rfl ?_
                refine own_icF X340 hx hby at_266 (by decide) (pc' := 269) rfl ?_
                refine own_aload X340 hx hby rfl rfl at_269 (pc' := 271) rfl ?_
                refine own_iload X340 hx hby rfl at_271 (pc' := 273) rfl ?_
                refine own_iconst X340 hx hby (v := (0 : Int32)) (by decide) at_273 (pc' := 274) rfl ?_
                refine own_iload X340 hx hby rfl at_274 (pc' := 276) rfl ?_
                obtain ⟨v342, q_v342⟩ : ∃ z : UInt64, (FP.i2d n9) = z := ⟨_, rfl⟩
                have D_v342 : Dy v342 n9.toInt 0 := q_v342 ▸ dy_i2d n9
                refine own_i2d X340 hx hby q_v342 at_276 (pc' := 277) rfl ?_
                refine own_ldc2D X340 hx hby hZ hown (hw _ (List.mem_of_getElem? (i := 43) rfl)) at_277 (pc' := 280) rfl ?_
                obtain ⟨v343, q_v343⟩ : ∃ z : UInt64, (FP.ddiv v342 (4616189618054758400 : UInt64)) = z := ⟨_, rfl⟩
                have R_n9 := own_q3r q_n9
                have D_v343 : Dy v343 n9.toInt 2 := own_div4 q_v343 D_v342 R_n9
                have nn_v343 := D_v343.nn
                refine own_ddiv X340 hx hby (by rw [q_v343]; exact nn_v343) q_v343 at_280 (pc' := 281) rfl ?_
                refine own_iconst X340 hx hby (v := (3 : Int32)) (by decide) at_281 (pc' := 282) rfl ?_
                refine own_iload X340 hx hby rfl at_282 (pc' := 284) rfl ?_
                refine own_imul X340 hx hby rfl at_284 (pc' := 285) rfl ?_
                obtain ⟨v344, q_v344⟩ : ∃ z : UInt64, (FP.i2d ((3 : Int32) * n13)) = z := ⟨_, rfl⟩
                have D_v344 : Dy v344 (3 * n13.toInt) 0 := q_v344 ▸ (dy_i2d ((3 : Int32) * n13)).to (own_3k (own_k10 q_n13))
                refine own_i2d X340 hx hby q_v344 at_285 (pc' := 286) rfl ?_
                have LU286g := own_g D_v343 R_n9
                have LU286 := own_dn D_v343 R_n9 D_v344 (own_k10 q_n13) S_v341 (own_b1 b_v341)
                refine own_virtual X340 hx hby hZ (y := (⟨"com/example/bidfold/bidfold/Branching", "learn", "(IZDD)V"⟩ : MethodName)) (y' := (⟨"com/example/bidfold/bidfold/Branching", "learn", "(IZDD)V"⟩ : MethodName)) (C := "com/example/bidfold/bidfold/Branching") (rest := []) hown (hw _ (List.mem_of_getElem? (i := 26) rfl)) (hw _ (List.mem_of_getElem? (i := 27) rfl)) (notFace_of_selects (args := #[]) (mvT hZ (hw _ (List.mem_of_getElem? (i := 29) rfl)))) (hw _ (List.mem_of_getElem? (i := 29) rfl)) (hw _ (List.mem_of_getElem? (i := 28) rfl)) (hw _ (List.mem_of_getElem? (i := 30) rfl)) (hw _ (List.mem_of_getElem? (i := 2) rfl)) (by decide) (rm310 l Z a0 hw [] b16 v343 v344 b4_17 b6_17 v194 v341 (1 : Int32) (1 : Int32) h340 n0 Z0 F_b16_downFalls F_b16_downCounts V_b4_17 V_b6_17 LU286g.1 LU286g.2 LU286.1 LU286.2.1 g_b4_17 ne_b16_b4_17 (Ne.symm ne_b4_17_b6_17) g_b6_17 ne_b16_b6_17) eH340 (by rw [hml]; rfl) (a := b16) E_b16 (argsL := [(.int (1 : Int32)), (.int (0 : Int32)), (.double v343), (.double v344)]) rfl (lenOf pd_2 rfl) rfl at_286 (pc' := 289) rfl (by decide) (W := 0) (Nat.le_of_eq rfl) (by decide) (by decide) (by decide) (fun T345 h345 Lc345 v345r X345 eH345 hQ345 => ?_)
                obtain ⟨rfl, Nq345, Kq345, gq345_0, gq345_1⟩ := hQ345
                have N345 := Fr.app N340 Nq345
                replace E_b16 := E_b16.keep Kq345
                replace F_b16_downFalls := F_b16_downFalls.keep Kq345 (ninS ne_b16_b4_17 (ninS ne_b16_b6_17 nin0))
                replace F_b16_downCounts := F_b16_downCounts.keep Kq345 (ninS ne_b16_b4_17 (ninS ne_b16_b6_17 nin0))
                replace F_b16_upFalls := F_b16_upFalls.keep Kq345 (ninS ne_b16_b4_17 (ninS ne_b16_b6_17 nin0))
                replace F_b16_upCounts := F_b16_upCounts.keep Kq345 (ninS ne_b16_b4_17 (ninS ne_b16_b6_17 nin0))
                replace E_b4_17 := E_b4_17.keep Kq345
                replace E_b6_17 := E_b6_17.keep Kq345
                replace E_b8_17 := E_b8_17.keep Kq345
                replace V_b8_17 := V_b8_17.keep Kq345 (ninS (Ne.symm ne_b4_17_b8_17) (ninS (Ne.symm ne_b6_17_b8_17) nin0))
                replace E_b10_17 := E_b10_17.keep Kq345
                replace V_b10_17 := V_b10_17.keep Kq345 (ninS (Ne.symm ne_b4_17_b10_17) (ninS (Ne.symm ne_b6_17_b10_17) nin0))
                obtain ⟨v346, q_v346⟩ : ∃ z : UInt64, (FP.dadd v341 (FP.ddiv v344 v343)) = z := ⟨_, rfl⟩
                have V_b4_17 : Ary tr Z h345 b4_17 .double [(.double v194), (.double v346)] := by rw [← q_v346]; exact gq345_0
                rw [show ((1 : Int32) + (1 : Int32)) = (2 : Int32) from by decide] at gq345_1
                have V_b6_17 := gq345_1
                replace Z0 := Nat.le_trans Z0 Kq345.1
                have S_v346 : Dy v346 ((0 + 12 * n12.toInt / n8.toInt) + 12 * n13.toInt / n9.toInt) 0 := by have q := LU286.2.2; rwa [q_v346] at q
                have b_v346 := own_dq (n := n9.toInt) (k := n13.toInt) R_n9 (own_k10 q_n13)
                refine own_aload X345 hx hby rfl rfl at_289 (pc' := 291) rfl ?_
                refine own_iload X345 hx hby rfl at_291 (pc' := 293) rfl ?_
                refine own_iload X345 hx hby rfl at_293 (pc' := 295) rfl ?_
                obtain ⟨v347, q_v347⟩ : ∃ z : UInt64, (FP.i2d n5) = z := ⟨_, rfl⟩
                have D_v347 : Dy v347 n5.toInt 0 := q_v347 ▸ dy_i2d n5
                refine own_i2d X345 hx hby q_v347 at_295 (pc' := 296) rfl ?_
                refine own_ldc2D X345 hx hby hZ hown (hw _ (List.mem_of_getElem? (i := 33) rfl)) at_296 (pc' := 299) rfl ?_
                obtain ⟨v348, q_v348⟩ : ∃ z : UInt64, (FP.ddiv v347 (4620693217682128896 : UInt64)) = z := ⟨_, rfl⟩
                have R9 := own_r9 q_n5
                have D_v348 : Dy v348 n5.toInt 3 := own_div8 q_v348 D_v347 R9
                have nn_v348 := D_v348.nn
                refine own_ddiv X345 hx hby (by rw [q_v348]; exact nn_v348) q_v348 at_299 (pc' := 300) rfl ?_
                have MA0 := own_f2 S_v307 (own_b2 b_v302 b_v307)
                have MA := own_ifp (p := 0 < (2 : Int32)) (by decide) (y := (4607182418800017408 : UInt64)) MA0
                have MB0 := own_f2 S_v346 (own_b2 b_v341 b_v346)
                have MB := own_ifp (p := 0 < (2 : Int32)) (by decide) (y := (4607182418800017408 : UInt64)) MB0
                have SD := own_sides MA MB (own_t1 (own_b2 b_v302 b_v307)) (own_t1 (own_b2 b_v341 b_v346)) D_v348 R9
                refine own_virtual X345 hx hby hZ (y := (⟨"com/example/bidfold/bidfold/Branching", "leansIn", "(ID)Z"⟩ : MethodName)) (y' := (⟨"com/example/bidfold/bidfold/Branching", "leansIn", "(ID)Z"⟩ : MethodName)) (C := "com/example/bidfold/bidfold/Branching") (rest := []) hown (hw _ (List.mem_of_getElem? (i := 34) rfl)) (hw _ (List.mem_of_getElem? (i := 35) rfl)) (notFace_of_selects (args := #[]) (mvT hZ (hw _ (List.mem_of_getElem? (i := 37) rfl)))) (hw _ (List.mem_of_getElem? (i := 37) rfl)) (hw _ (List.mem_of_getElem? (i := 36) rfl)) (hw _ (List.mem_of_getElem? (i := 38) rfl)) (hw _ (List.mem_of_getElem? (i := 2) rfl)) (by decide) (rm41 l Z a0 hw [] b16 v348 b8_17 b10_17 v191 v307 (1 : Int32) (2 : Int32) b4_17 b6_17 v194 v346 (1 : Int32) (2 : Int32) h345 n0 Z0 F_b16_upFalls F_b16_upCounts V_b8_17 V_b10_17 F_b16_downFalls F_b16_downCounts V_b4_17 V_b6_17 (fun _ => MA0.nn) SD.1 SD.2.1 (fun _ => MB0.nn) SD.2.2.1) eH345 (by rw [hml]; rfl) (a := b16) E_b16 (argsL := [(.int (1 : Int32)), (.double v348)]) rfl (lenOf pd_3 rfl) rfl at_300 (pc' := 303) rfl (by decide) (W := 0) (Nat.le_of_eq rfl) (by decide) (by decide) (by decide) (fun T349 h349 Lc349 v349r X349 eH349 hQ349 => ?_)
                obtain ⟨rfl, Nq349, rfl⟩ := hQ349
                have N349 := Fr.app N345 Nq349
                dsimp only [Option.toList, List.cons_append, List.nil_append]
                generalize q_r350 : (if dle (FP.dmul (if 0 < (2 : Int32) then (FP.ddiv v307 (FP.i2d (2 : Int32))) else (4607182418800017408 : UInt64)) (FP.dsub (4607182418800017408 : UInt64) v348)) (FP.dmul (if 0 < (2 : Int32) then (FP.ddiv v346 (FP.i2d (2 : Int32))) else (4607182418800017408 : UInt64)) v348) then (1 : Int32) else (0 : Int32)) = r350
                refine own_istore X349 hx hby (L' := #[.val (.int p0), .val (.int p1), .val (.int p2), .val (.long p3), .second, .val (.int (1 : Int32)), .val (.int (0 : Int32)), .val (.int (2 : Int32)), .val (.int (2 : Int32)), .val (.int n5), .val (.int n6), .val (.int n7), .val (.int n8), .val (.int n9), .val (.int n10), .val (.int n11), .val (.int n12), .val (.int n13), .val (.int n14), .val (.int n15), .val (.ref b16), .val (.int r350), .unset, .unset, .unset, .unset, .unset, .unset, .unset, .unset, .unset]) rfl at_303 (pc' := 305) rfl ?_
                refine own_lconst X349 hx hby (v := (0 : Int64)) (by decide) at_305 (pc' := 306) rfl ?_
                refine own_lstore X349 hx hby (L' := #[.val (.int p0), .val (.int p1), .val (.int p2), .val (.long p3), .second, .val (.int (1 : Int32)), .val (.int (0 : Int32)), .val (.int (2 : Int32)), .val (.int (2 : Int32)), .val (.int n5), .val (.int n6), .val (.int n7), .val (.int n8), .val (.int n9), .val (.int n10), .val (.int n11), .val (.int n12), .val (.int n13), .val (.int n14), .val (.int n15), .val (.ref b16), .val (.int r350), .val (.long (0 : Int64)), .second, .unset, .unset, .unset, .unset, .unset, .unset, .unset]) rfl at_306 (pc' := 308) rfl ?_
                refine own_iload X349 hx hby rfl at_308 (pc' := 310) rfl ?_
                refine own_iconst X349 hx hby (v := (1 : Int32)) (by decide) at_310 (pc' := 311) rfl ?_
                refine own_icF X349 hx hby at_311 (by decide) (pc' := 314) rfl ?_
                refine own_lload X349 hx hby rfl at_314 (pc' := 316) rfl ?_
                refine own_ldc2L X349 hx hby hZ hown (hw _ (List.mem_of_getElem? (i := 44) rfl)) at_316 (pc' := 319) rfl ?_
                refine own_iload X349 hx hby rfl at_319 (pc' := 321) rfl ?_
                as_aux_lemma =>
                  refine own_i2l X349 hx hby rfl at_321 (pc' := 322) rfl ?_
                  refine own_lmul X349 hx hby rfl at_322 (pc' := 323) rfl ?_
                  refine own_iconst X349 hx hby (v := (4 : Int32)) (by decide) at_323 (pc' := 324) rfl ?_
                  refine own_iload X349 hx hby rfl at_324 (pc' := 326) rfl ?_
                  refine own_isub X349 hx hby rfl at_326 (pc' := 327) rfl ?_
                  refine own_i2l X349 hx hby rfl at_327 (pc' := 328) rfl ?_
                  refine own_ldiv X349 hx hby (own_nzL (own_4q R_n6) (own_4qd R_n6).1) rfl at_328 (pc' := 329) rfl ?_
                  refine own_ladd X349 hx hby rfl at_329 (pc' := 330) rfl ?_
                  generalize q_n351 : ((0 : Int64) + (((12 : Int64) * (n10.toInt64)) / (((4 : Int32) - n6).toInt64))) = n351
                  refine own_lstore X349 hx hby (L' := #[.val (.int p0), .val (.int p1), .val (.int p2), .val (.long p3), .second, .val (.int (1 : Int32)), .val (.int (0 : Int32)), .val (.int (2 : Int32)), .val (.int (2 : Int32)), .val (.int n5), .val (.int n6), .val (.int n7), .val (.int n8), .val (.int n9), .val (.int n10), .val (.int n11), .val (.int n12), .val (.int n13), .val (.int n14), .val (.int n15), .val (.ref b16), .val (.int r350), .val (.long n351), .second, .unset, .unset, .unset, .unset, .unset, .unset, .unset]) rfl at_330 (pc' := 332) rfl ?_
                  refine own_iload X349 hx hby rfl at_332 (pc' := 334) rfl ?_
                  refine own_iconst X349 hx hby (v := (2 : Int32)) (by decide) at_334 (pc' := 335) rfl ?_
                  refine own_icF X349 hx hby at_335 (by decide) (pc' := 338) rfl ?_
                  refine own_lload X349 hx hby rfl at_338 (pc' := 340) rfl ?_
                  refine own_ldc2L X349 hx hby hZ hown (hw _ (List.mem_of_getElem? (i := 44) rfl)) at_340 (pc' := 343) rfl ?_
                  refine own_iload X349 hx hby rfl at_343 (pc' := 345) rfl ?_
                  refine own_i2l X349 hx hby rfl at_345 (pc' := 346) rfl ?_
                  refine own_lmul X349 hx hby rfl at_346 (pc' := 347) rfl ?_
                  refine own_iconst X349 hx hby (v := (4 : Int32)) (by decide) at_347 (pc' := 348) rfl ?_
                  refine own_iload X349 hx hby rfl at_348 (pc' := 350) rfl ?_
                  refine own_isub X349 hx hby rfl at_350 (pc' := 351) rfl ?_
                  refine own_i2l X349 hx hby rfl at_351 (pc' := 352) rfl ?_
                  refine own_ldiv X349 hx hby (own_nzL (own_4q R_n7) (own_4qd R_n7).1) rfl at_352 (pc' := 353) rfl ?_
                  refine own_ladd X349 hx hby rfl at_353 (pc' := 354) rfl ?_
                  generalize q_n352 : (n351 + (((12 : Int64) * (n11.toInt64)) / (((4 : Int32) - n7).toInt64))) = n352
                  refine own_lstore X349 hx hby (L' := #[.val (.int p0), .val (.int p1), .val (.int p2), .val (.long p3), .second, .val (.int (1 : Int32)), .val (.int (0 : Int32)), .val (.int (2 : Int32)), .val (.int (2 : Int32)), .val (.int n5), .val (.int n6), .val (.int n7), .val (.int n8), .val (.int n9), .val (.int n10), .val (.int n11), .val (.int n12), .val (.int n13), .val (.int n14), .val (.int n15), .val (.ref b16), .val (.int r350), .val (.long n352), .second, .unset, .unset, .unset, .unset, .unset, .unset, .unset]) rfl at_354 (pc' := 356) rfl ?_
                  refine own_lconst X349 hx hby (v := (0 : Int64)) (by decide) at_356 (pc' := 357) rfl ?_
                  refine own_lstore X349 hx hby (L' := #[.val (.int p0), .val (.int p1), .val (.int p2), .val (.long p3), .second, .val (.int (1 : Int32)), .val (.int (0 : Int32)), .val (.int (2 : Int32)), .val (.int (2 : Int32)), .val (.int n5), .val (.int n6), .val (.int n7), .val (.int n8), .val (.int n9), .val (.int n10), .val (.int n11), .val (.int n12), .val (.int n13), .val (.int n14), .val (.int n15), .val (.ref b16), .val (.int r350), .val (.long n352), .second, .val (.long (0 : Int64)), .second, .unset, .unset, .unset, .unset, .unset]) rfl at_357 (pc' := 359) rfl ?_
                  refine own_iload X349 hx hby rfl at_359 (pc' := 361) rfl ?_
                  refine own_iconst X349 hx hby (v := (1 : Int32)) (by decide) at_361 (pc' := 362) rfl ?_
                  refine own_icF X349 hx hby at_362 (by decide) (pc' := 365) rfl ?_
                  refine own_lload X349 hx hby rfl at_365 (pc' := 367) rfl ?_
                  refine own_ldc2L X349 hx hby hZ hown (hw _ (List.mem_of_getElem? (i := 44) rfl)) at_367 (pc' := 370) rfl ?_
                  refine own_iload X349 hx hby rfl at_370 (pc' := 372) rfl ?_
                  refine own_i2l X349 hx hby rfl at_372 (pc' := 373) rfl ?_
                  refine own_lmul X349 hx hby rfl at_373 (pc' := 374) rfl ?_
                  refine own_iload X349 hx hby rfl at_374 (pc' := 376) rfl ?_
                  refine own_i2l X349 hx hby rfl at_376 (pc' := 377) rfl ?_
                  refine own_ldiv X349 hx hby (own_nzL (c_i2l n8) R_n8.1) rfl at_377 (pc' := 378) rfl ?_
                  refine own_ladd X349 hx hby rfl at_378 (pc' := 379) rfl ?_
                  generalize q_n353 : ((0 : Int64) + (((12 : Int64) * (n12.toInt64)) / (n8.toInt64))) = n353
                  refine own_lstore X349 hx hby (L' := #[.val (.int p0), .val (.int p1), .val (.int p2), .val (.long p3), .second, .val (.int (1 : Int32)), .val (.int (0 : Int32)), .val (.int (2 : Int32)), .val (.int (2 : Int32)), .val (.int n5), .val (.int n6), .val (.int n7), .val (.int n8), .val (.int n9), .val (.int n10), .val (.int n11), .val (.int n12), .val (.int n13), .val (.int n14), .val (.int n15), .val (.ref b16), .val (.int r350), .val (.long n352), .second, .val (.long n353), .second, .unset, .unset, .unset, .unset, .unset]) rfl at_379 (pc' := 381) rfl ?_
                  refine own_iload X349 hx hby rfl at_381 (pc' := 383) rfl ?_
                  refine own_iconst X349 hx hby (v := (2 : Int32)) (by decide) at_383 (pc' := 384) rfl ?_
                  refine own_icF X349 hx hby at_384 (by decide) (pc' := 387) rfl ?_
                  refine own_lload X349 hx hby rfl at_387 (pc' := 389) rfl ?_
                  refine own_ldc2L X349 hx hby hZ hown (hw _ (List.mem_of_getElem? (i := 44) rfl)) at_389 (pc' := 392) rfl ?_
                  refine own_iload X349 hx hby rfl at_392 (pc' := 394) rfl ?_
                  refine own_i2l X349 hx hby rfl at_394 (pc' := 395) rfl ?_
                  refine own_lmul X349 hx hby rfl at_395 (pc' := 396) rfl ?_
                  refine own_iload X349 hx hby rfl at_396 (pc' := 398) rfl ?_
                  refine own_i2l X349 hx hby rfl at_398 (pc' := 399) rfl ?_
                  refine own_ldiv X349 hx hby (own_nzL (c_i2l n9) R_n9.1) rfl at_399 (pc' := 400) rfl ?_
                  refine own_ladd X349 hx hby rfl at_400 (pc' := 401) rfl ?_
                  generalize q_n354 : (n353 + (((12 : Int64) * (n13.toInt64)) / (n9.toInt64))) = n354
                  refine own_lstore X349 hx hby (L' := #[.val (.int p0), .val (.int p1), .val (.int p2), .val (.long p3), .second, .val (.int (1 : Int32)), .val (.int (0 : Int32)), .val (.int (2 : Int32)), .val (.int (2 : Int32)), .val (.int n5), .val (.int n6), .val (.int n7), .val (.int n8), .val (.int n9), .val (.int n10), .val (.int n11), .val (.int n12), .val (.int n13), .val (.int n14), .val (.int n15), .val (.ref b16), .val (.int r350), .val (.long n352), .second, .val (.long n354), .second, .unset, .unset, .unset, .unset, .unset]) rfl at_401 (pc' := 403) rfl ?_
                  refine own_iload X349 hx hby rfl at_403 (pc' := 405) rfl ?_
                  refine own_ifT X349 hx hby at_405 (by decide) (by decide) (pc' := 414) (by decide) ?_
                  refine own_iload X349 hx hby rfl at_414 (pc' := 416) rfl ?_
                  refine own_iconst X349 hx hby (v := (1 : Int32)) (by decide) at_416 (pc' := 417) rfl ?_
                  refine own_icT X349 hx hby at_417 (by decide) (by decide) (pc' := 429) (by decide) ?_
                  refine own_lload X349 hx hby rfl at_429 (pc' := 431) rfl ?_
                  refine own_lstore X349 hx hby (L' := #[.val (.int p0), .val (.int p1), .val (.int p2), .val (.long p3), .second, .val (.int (1 : Int32)), .val (.int (0 : Int32)), .val (.int (2 : Int32)), .val (.int (2 : Int32)), .val (.int n5), .val (.int n6), .val (.int n7), .val (.int n8), .val (.int n9), .val (.int n10), .val (.int n11), .val (.int n12), .val (.int n13), .val (.int n14), .val (.int n15), .val (.ref b16), .val (.int r350), .val (.long n352), .second, .val (.long n354), .second, .val (.long n352), .second, .unset, .unset, .unset]) rfl at_431 (pc' := 433) rfl ?_
                  refine own_iload X349 hx hby rfl at_433 (pc' := 435) rfl ?_
                  refine own_ifT X349 hx hby at_435 (by decide) (by decide) (pc' := 444) (by decide) ?_
                  refine own_iload X349 hx hby rfl at_444 (pc' := 446) rfl ?_
                  refine own_iconst X349 hx hby (v := (1 : Int32)) (by decide) at_446 (pc' := 447) rfl ?_
                  refine own_icT X349 hx hby at_447 (by decide) (by decide) (pc' := 459) (by decide) ?_
                  refine own_lload X349 hx hby rfl at_459 (pc' := 461) rfl ?_
                  refine own_lstore X349 hx hby (L' := #[.val (.int p0), .val (.int p1), .val (.int p2), .val (.long p3), .second, .val (.int (1 : Int32)), .val (.int (0 : Int32)), .val (.int (2 : Int32)), .val (.int (2 : Int32)), .val (.int n5), .val (.int n6), .val (.int n7), .val (.int n8), .val (.int n9), .val (.int n10), .val (.int n11), .val (.int n12), .val (.int n13), .val (.int n14), .val (.int n15), .val (.ref b16), .val (.int r350), .val (.long n352), .second, .val (.long n354), .second, .val (.long n352), .second, .val (.long n354), .second, .unset]) rfl at_461 (pc' := 463) rfl ?_
                  have tw_n351 := own_tw (k := n10) (own_4q R_n6) (own_4qd R_n6) (own_k10 q_n10)
                  have bq_n351 := own_dq (n := (4 - n6.toInt)) (k := n10.toInt) (own_4qd R_n6) (own_k10 q_n10)
                  have et_n351 : n351.toInt = (0 + 12 * n10.toInt / (4 - n6.toInt)) := own_ls q_n351 own_e0 tw_n351 (own_w3 own_b0) bq_n351
                  have tw_n352 := own_tw (k := n11) (own_4q R_n7) (own_4qd R_n7) (own_k10 q_n11)
                  have bq_n352 := own_dq (n := (4 - n7.toInt)) (k := n11.toInt) (own_4qd R_n7) (own_k10 q_n11)
                  have et_n352 : n352.toInt = ((0 + 12 * n10.toInt / (4 - n6.toInt)) + 12 * n11.toInt / (4 - n7.toInt)) := own_ls q_n352 et_n351 tw_n352 (own_b1' bq_n351) bq_n352
                  have eu := et_n352
                  have tw_n353 := own_tw (k := n12) (c_i2l n8) R_n8 (own_k10 q_n12)
                  have bq_n353 := own_dq (n := n8.toInt) (k := n12.toInt) R_n8 (own_k10 q_n12)
                  have et_n353 : n353.toInt = (0 + 12 * n12.toInt / n8.toInt) := own_ls q_n353 own_e0 tw_n353 (own_w3 own_b0) bq_n353
                  have tw_n354 := own_tw (k := n13) (c_i2l n9) R_n9 (own_k10 q_n13)
                  have bq_n354 := own_dq (n := n9.toInt) (k := n13.toInt) R_n9 (own_k10 q_n13)
                  have et_n354 : n354.toInt = ((0 + 12 * n12.toInt / n8.toInt) + 12 * n13.toInt / n9.toInt) := own_ls q_n354 et_n353 tw_n354 (own_b1' bq_n353) bq_n354
                  have ed := et_n354
                  refine own_lload X349 hx hby rfl at_463 (pc' := 465) rfl ?_
                  refine own_bipush X349 hx hby (v := (8 : Int32)) (by decide) at_465 (pc' := 467) rfl ?_
                  refine own_iload X349 hx hby rfl at_467 (pc' := 469) rfl ?_
                  refine own_isub X349 hx hby rfl at_469 (pc' := 470) rfl ?_
                  refine own_i2l X349 hx hby rfl at_470 (pc' := 471) rfl ?_
                  refine own_lmul X349 hx hby rfl at_471 (pc' := 472) rfl ?_
                  refine own_lload X349 hx hby rfl at_472 (pc' := 474) rfl ?_
                  refine own_iload X349 hx hby rfl at_474 (pc' := 476) rfl ?_
                  refine own_i2l X349 hx hby rfl at_476 (pc' := 477) rfl ?_
                  refine own_lmul X349 hx hby rfl at_477 (pc' := 478) rfl ?_
                  generalize q_n355 : (n352 * (((8 : Int32) - n5).toInt64)) = n355
                  generalize q_n356 : (n354 * (n5.toInt64)) = n356
                  refine own_lcmp X349 hx hby rfl at_478 (pc' := 479) rfl ?_
                  obtain ⟨w357, q_w357⟩ : ∃ z : Int32, (if n356 < n355 then (0 : Int32) else (1 : Int32)) = z := ⟨_, rfl⟩
                  refine own_join (S' := T349.setTop (mkF m 487 #[.val (.int p0), .val (.int p1), .val (.int p2), .val (.long p3), .second, .val (.int (1 : Int32)), .val (.int (0 : Int32)), .val (.int (2 : Int32)), .val (.int (2 : Int32)), .val (.int n5), .val (.int n6), .val (.int n7), .val (.int n8), .val (.int n9), .val (.int n10), .val (.int n11), .val (.int n12), .val (.int n13), .val (.int n14), .val (.int n15), .val (.ref b16), .val (.int r350), .val (.long n352), .second, .val (.long n354), .second, .val (.long n352), .second, .val (.long n354), .second, .unset] [(.int w357)])) (fun F' k' => ?_) ?_
                  · rw [← q_w357] at k'
                    by_cases hc358 : n356 < n355
                    · simp only [if_pos hc358] at k'
                      refine own_ifT X349 hx hby at_479 (own_lc_gt_p hc358) (by decide) (pc' := 486) (by decide) ?_
                      refine own_iconst X349 hx hby (v := (0 : Int32)) (by decide) at_486 (pc' := 487) rfl ?_
                      exact k'
                    · simp only [if_neg hc358] at k'
                      refine own_ifF X349 hx hby at_479 (own_lc_gt_n hc358) (pc' := 482) rfl ?_
                      refine own_iconst X349 hx hby (v := (1 : Int32)) (by decide) at_482 (pc' := 483) rfl ?_
                      refine own_goto X349 hx hby at_483 (by decide) (pc' := 487) (by decide) ?_
                      exact k'
                  refine own_istore X349 hx hby (L' := #[.val (.int p0), .val (.int p1), .val (.int p2), .val (.long p3), .second, .val (.int (1 : Int32)), .val (.int (0 : Int32)), .val (.int (2 : Int32)), .val (.int (2 : Int32)), .val (.int n5), .val (.int n6), .val (.int n7), .val (.int n8), .val (.int n9), .val (.int n10), .val (.int n11), .val (.int n12), .val (.int n13), .val (.int n14), .val (.int n15), .val (.ref b16), .val (.int r350), .val (.long n352), .second, .val (.long n354), .second, .val (.long n352), .second, .val (.long n354), .second, .val (.int w357)]) rfl at_487 (pc' := 489) rfl ?_
                  refine own_iload X349 hx hby rfl at_489 (pc' := 491) rfl ?_
                  refine own_iload X349 hx hby rfl at_491 (pc' := 493) rfl ?_
                  have hk359 : r350 = w357 := own_fin SD.2.2.2 R9 (own_t1 (own_b2 b_v302 b_v307)) (own_t1 (own_b2 b_v341 b_v346)) eu ed q_r350 q_n355 q_n356 q_w357
                  refine own_icF X349 hx hby at_493 (own_ic_ne_p hk359) (pc' := 496) rfl ?_
                  refine own_iconst X349 hx hby (v := (1 : Int32)) (by decide) at_496 (pc' := 497) rfl ?_
                  refine own_goto X349 hx hby at_497 (by decide) (pc' := 501) (by decide) ?_
                  exact own_retZ X349 hx hby Bd.notSynchronized Bd.returns (Or.inr rfl) at_501 (by decide) (by decide) eH349 ⟨rfl, N349⟩
set_option maxRecDepth 65536 in
set_option maxHeartbeats 40000000 in
theorem comes_1 {Post : Tables → Env → Array Value → State → Outcome → State → Prop} (hpost : ∀ tb e args s v u, (limb_1_1.after args s (.returned v) u = true ∧ limb_1_2.after args s (.returned v) u = true ∧ True) → FrameEnd s (.returned v) u (Jvm.fieldLocs frame_1_writes args s ++ Jvm.arrayLocs frame_1_arrays args s ++ Jvm.staticLocs frame_1_statics s) 24 128 → Post tb e args s (.returned v) u) :
    ArmFor flags0 classFile x code maxLocals ret World_1 tables_1 room_1 Calls_1 rest_1 Pre_1 Post := by
  intro l hfl _ _ p e ha hc hk s m args below hf hA hF happ hP
  obtain ⟨hcalls, hrest, hpre⟩ := hP
  obtain ⟨-, -, -, hnamed, -, -, -, hat⟩ := (Spec.applies_iff hf).mp happ
  obtain ⟨hg, hn⟩ := and_e (Cond.before_iff.mp (show (Jvm.Cond.and given_1 narrow_1).before args s = true from hpre))
  obtain ⟨gg1, gg2⟩ := and_e hg
  obtain ⟨gg3, gg4⟩ := and_e gg2
  obtain ⟨gg5, gg6⟩ := and_e gg4
  obtain ⟨gg7, gg8⟩ := and_e gg6
  obtain ⟨w0, w1, w2, w3, rfl⟩ : ∃ w0 w1 w2 w3 : Value, args = #[w0, w1, w2, w3] := by
    have hs : args.size = 4 := by simpa [Cond.value, given_1] using gg1
    obtain ⟨L⟩ := args
    match L, hs with
    | [w0, w1, w2, w3], _ => exact ⟨w0, w1, w2, w3, rfl⟩
  have hw := fun d (hd : d ∈ tables_1) => atoms_spec (ws := Jvm.Cond.code x code maxLocals ret :: tables_1) hat d (List.mem_cons_of_mem _ hd)
  have hfit : Fit s := fun {y c} hc i hi => by
    obtain ⟨ha, rfl⟩ := Array.getElem?_eq_some_iff.mp hc
    have q := List.all_eq_true.mp ((Array.all_eq_true_iff_forall_mem.mp hF) _ (Array.getElem_mem ha)) i (List.mem_range.mpr hi)
    simpa [Array.getElem?_eq_getElem hi] using q
  obtain ⟨i0, ei0⟩ := is_v gg3
  obtain rfl : w0 = (.int i0) := Option.some.inj ei0
  obtain ⟨i1, ei1⟩ := is_v gg5
  obtain rfl : w1 = (.int i1) := Option.some.inj ei1
  obtain ⟨i2, ei2⟩ := is_v gg7
  obtain rfl : w2 = (.int i2) := Option.some.inj ei2
  obtain ⟨i3, ei3⟩ := isL_v gg8
  obtain rfl : w3 = (.long i3) := Option.some.inj ei3
  obtain ⟨n, o, h1, h2, h3, _, L, rfl, ⟨rfl, N⟩, hq⟩ := rm0 l s _ hw tables_1 i0 i1 i2 i3 s.heap s.heap.size (Nat.le_refl _) p e ha hc hk s m _ below hf ((Spec.applies_iff_loose hf).mp happ).1 ⟨rfl, State.Warmed39.refl s, rfl⟩ trivial
  refine ⟨n, _, h1, h2, h3, hpost _ _ _ _ _ _ ⟨Cond.after_iff.mpr rfl, Cond.after_iff.mpr (eq_i res_at (Term.int_eval (1)) rfl), trivial⟩ ⟨hq.1, hq.2.1, (hq.2.2.sift fun y hy => Or.inr (N y hy)).mono (by decide) (by decide)⟩⟩
theorem main_1_1 : Claimed_1_1 := comes_1 fun _ _ _ _ _ _ h hF => ⟨h.1, hF⟩
theorem main_1_2 : Claimed_1_2 := comes_1 fun _ _ _ _ _ _ h hF => ⟨h.2.1, hF⟩
end Jvm.Pilot.@@N@@
namespace Jvm.Pilot.@@N@@
open Jvm Jvm.ClassFile Sem Op Lib Jvm.Free Jvm.Stand Jvm.Pilot.@@N@@.Jvm.D
/-! MADE BY PROGRAM (witnessworld.py) out of the Statement's table words and the real class files: 11 classes; the members and pool entries that the words name. The judged class is class 1, her method 1. -/
namespace start1
open Jvm.ClassFile
def u (s : String) : CpInfo := .utf8 (stringToUtf16 s)
/-- a pool by its gaps: so many unusable entries, then the entry; so many at the end -/
def gap : Nat → List CpInfo → List CpInfo
  | 0, r => r
  | n + 1, r => .unusable :: gap n r
def poolList (es : List (Nat × CpInfo)) (last : Nat) : List CpInfo := es.foldr (fun e r => gap e.1 (e.2 :: r)) (gap last [])
def pool (es : List (Nat × CpInfo)) (last : Nat) : Array CpInfo := ⟨poolList es last⟩
def fileOf (pool : Array CpInfo) (this : Nat) (attrs : Array Attribute := #[]) (ms : Array MethodInfo := #[]) (fl : Nat := 33) (sup : Nat := 0) (ifs : Array Nat := #[]) (fds : Array FieldInfo := #[]) : ClassFile where
  minorVersion := 0
  majorVersion := 65
  constantPool := pool
  accessFlags := fl
  thisClass := this
  superClass := sup
  interfaces := ifs
  fields := fds
  methods := ms
  attributes := attrs
def plain (name : String) (sup : Option ClassId) : Class where
  name := name
  kind := .ordinary
  loader := none
  accessFlags := 33
  super := sup
  interfaces := #[]
  cf := none
  fields := #[]
  methods := #[]
  instanceTypes := #[]
  staticTypes := #[]
  resolved := #[]
  callSites := []
  init := .initialized
  statics := none
  mirror := none

def pool0 : Array CpInfo := pool [(5, u "<init>"), (0, u "()V"), (1, .class_ 10), (1, u "java/lang/Object")] 113

def k0c0 : Code := { maxStack := 0, maxLocals := 1, code := object_method_1_code, exceptionTable := #[], attributes := #[] }
def k0m0 : Method := { name := "<init>", desc := "()V", sig := { parameters := [], returnType := none }, accessFlags := 1, code := some k0c0 }
/-- java/lang/Object -/
def k0 : Class := { plain "java/lang/Object" none with
  accessFlags := 33
  interfaces := #[]
  cf := some (fileOf pool0 8 #[] #[{ accessFlags := 1, nameIndex := 5, descriptorIndex := 6, attributes := #[] }] 33 0 #[] #[])
  fields := #[]
  methods := #[k0m0]
  instanceTypes := #[]
  staticTypes := #[]
  resolved := Array.replicate 124 none
  statics := none }

def pool1 : Array CpInfo := pool [(2, .class_ 4), (1, u "java/lang/Object"), (0, u "<init>"), (0, u "()V"), (0, .class_ 8), (0, u "com/example/bidfold/bidfold/Branching"), (0, .methodref 7 10), (0, .nameAndType 5 11), (0, u "(IJ)V"), (0, .double 4602678819172646912), (1, .methodref 7 15), (0, .nameAndType 16 17), (0, u "learn"), (0, u "(IZDD)V"), (0, .double 4616189618054758400), (1, .double 4620693217682128896), (1, .methodref 7 23), (0, .nameAndType 24 25), (0, u "leansIn"), (0, u "(ID)Z"), (0, .long 12), (1, .long 2), (1, .class_ 31), (0, u "com/example/bidfold/bidfold/BranchingLeansInPinLaw"), (2, u "law"), (0, u "(IIIJ)Z")] 3

def k1m0 : Method := { name := "<init>", desc := "()V", sig := { parameters := [], returnType := none }, accessFlags := 1, code := none }
def k1c1 : Code := { maxStack := 7, maxLocals := 31, code := code, exceptionTable := #[], attributes := #[] }
def k1m1 : Method := { name := "law", desc := "(IIIJ)Z", sig := { parameters := [.int, .int, .int, .long], returnType := some .boolean }, accessFlags := 9, code := some k1c1 }
/-- com/example/bidfold/bidfold/BranchingLeansInPinLaw -/
def k1 : Class := { plain "com/example/bidfold/bidfold/BranchingLeansInPinLaw" (some 0) with
  accessFlags := 49
  interfaces := #[]
  cf := some (fileOf pool1 30 #[] #[{ accessFlags := 1, nameIndex := 5, descriptorIndex := 6, attributes := #[] }, { accessFlags := 9, nameIndex := 34, descriptorIndex := 35, attributes := #[] }] 49 2 #[] #[])
  fields := #[]
  methods := #[k1m0, k1m1]
  instanceTypes := #[]
  staticTypes := #[]
  resolved := Array.replicate 39 none
  statics := none }

def pool2 : Array CpInfo := pool [(1, .methodref 2 3), (0, .class_ 4), (0, .nameAndType 5 6), (0, u "java/lang/Object"), (0, u "<init>"), (0, u "()V"), (0, .fieldref 8 9), (0, .class_ 10), (0, .nameAndType 11 12), (0, u "com/example/bidfold/bidfold/Branching"), (0, u "count"), (0, u "I"), (0, .fieldref 8 14), (0, .nameAndType 15 16), (0, u "least"), (0, u "J"), (0, .fieldref 8 18), (0, .nameAndType 19 20), (0, u "downFalls"), (0, u "[D"), (0, .fieldref 8 22), (0, .nameAndType 23 24), (0, u "downCounts"), (0, u "[I"), (0, .fieldref 8 26), (0, .nameAndType 27 20), (0, u "upFalls"), (0, .fieldref 8 29), (0, .nameAndType 30 24), (0, u "upCounts"), (0, .fieldref 8 32), (0, .nameAndType 33 24), (0, u "branchable"), (12, .double 4517329193108106637), (1, .double 4607182409792818153), (14, .methodref 8 64), (0, .nameAndType 65 66), (0, u "fallPerUnit"), (0, u "([D[IID)D"), (60, u "trialObjective"), (0, u "D"), (13, u "kept"), (0, u "Lcom/example/bidfold/bidfold/DualSimplex$State;"), (32, u "FIXED"), (2, u "RELIABLE"), (1, u "MAX_TRIED"), (1, u "LOOKAHEAD"), (0, u "TRIAL_PIVOTS"), (1, u "(IJ)V"), (6, u "learn"), (0, u "(IZDD)V"), (0, u "leansIn"), (0, u "(ID)Z")] 40

def k2c0 : Code := { maxStack := 3, maxLocals := 4, code := prog_13_method_1_code, exceptionTable := #[], attributes := #[] }
def k2m0 : Method := { name := "<init>", desc := "(IJ)V", sig := { parameters := [.int, .long], returnType := none }, accessFlags := 0, code := some k2c0 }
def k2c1 : Code := { maxStack := 10, maxLocals := 7, code := prog_13_method_3_code, exceptionTable := #[], attributes := #[] }
def k2m1 : Method := { name := "learn", desc := "(IZDD)V", sig := { parameters := [.int, .boolean, .double, .double], returnType := none }, accessFlags := 0, code := some k2c1 }
def k2c2 : Code := { maxStack := 7, maxLocals := 4, code := prog_13_method_4_code, exceptionTable := #[], attributes := #[] }
def k2m2 : Method := { name := "leansIn", desc := "(ID)Z", sig := { parameters := [.int, .double], returnType := some .boolean }, accessFlags := 0, code := some k2c2 }
def k2c3 : Code := { maxStack := 4, maxLocals := 5, code := prog_13_method_7_code, exceptionTable := #[], attributes := #[] }
def k2m3 : Method := { name := "fallPerUnit", desc := "([D[IID)D", sig := { parameters := [(.array .double), (.array .int), .int, .double], returnType := some .double }, accessFlags := 10, code := some k2c3 }
/-- com/example/bidfold/bidfold/Branching -/
def k2 : Class := { plain "com/example/bidfold/bidfold/Branching" (some 0) with
  accessFlags := 48
  interfaces := #[]
  cf := some (fileOf pool2 8 #[] #[{ accessFlags := 0, nameIndex := 5, descriptorIndex := 186, attributes := #[] }, { accessFlags := 0, nameIndex := 193, descriptorIndex := 194, attributes := #[] }, { accessFlags := 0, nameIndex := 195, descriptorIndex := 196, attributes := #[] }, { accessFlags := 10, nameIndex := 65, descriptorIndex := 66, attributes := #[] }] 48 2 #[] #[{ accessFlags := 24, nameIndex := 176, descriptorIndex := 12, attributes := #[] }, { accessFlags := 26, nameIndex := 179, descriptorIndex := 12, attributes := #[] }, { accessFlags := 26, nameIndex := 181, descriptorIndex := 12, attributes := #[] }, { accessFlags := 26, nameIndex := 183, descriptorIndex := 12, attributes := #[] }, { accessFlags := 26, nameIndex := 184, descriptorIndex := 12, attributes := #[] }, { accessFlags := 18, nameIndex := 11, descriptorIndex := 12, attributes := #[] }, { accessFlags := 18, nameIndex := 15, descriptorIndex := 16, attributes := #[] }, { accessFlags := 18, nameIndex := 19, descriptorIndex := 20, attributes := #[] }, { accessFlags := 18, nameIndex := 23, descriptorIndex := 24, attributes := #[] }, { accessFlags := 18, nameIndex := 27, descriptorIndex := 20, attributes := #[] }, { accessFlags := 18, nameIndex := 30, descriptorIndex := 24, attributes := #[] }, { accessFlags := 18, nameIndex := 33, descriptorIndex := 24, attributes := #[] }, { accessFlags := 2, nameIndex := 142, descriptorIndex := 143, attributes := #[] }, { accessFlags := 2, nameIndex := 127, descriptorIndex := 128, attributes := #[] }])
  fields := #[{ name := "FIXED", type := .int, accessFlags := 24, slot := 0, constantValue := 0 }, { name := "RELIABLE", type := .int, accessFlags := 26, slot := 1, constantValue := 0 }, { name := "MAX_TRIED", type := .int, accessFlags := 26, slot := 2, constantValue := 0 }, { name := "LOOKAHEAD", type := .int, accessFlags := 26, slot := 3, constantValue := 0 }, { name := "TRIAL_PIVOTS", type := .int, accessFlags := 26, slot := 4, constantValue := 0 }, { name := "count", type := .int, accessFlags := 18, slot := 0, constantValue := 0 }, { name := "least", type := .long, accessFlags := 18, slot := 1, constantValue := 0 }, { name := "downFalls", type := (.array .double), accessFlags := 18, slot := 2, constantValue := 0 }, { name := "downCounts", type := (.array .int), accessFlags := 18, slot := 3, constantValue := 0 }, { name := "upFalls", type := (.array .double), accessFlags := 18, slot := 4, constantValue := 0 }, { name := "upCounts", type := (.array .int), accessFlags := 18, slot := 5, constantValue := 0 }, { name := "branchable", type := (.array .int), accessFlags := 18, slot := 6, constantValue := 0 }, { name := "kept", type := (.object "com/example/bidfold/bidfold/DualSimplex$State"), accessFlags := 2, slot := 7, constantValue := 0 }, { name := "trialObjective", type := .double, accessFlags := 2, slot := 8, constantValue := 0 }]
  methods := #[k2m0, k2m1, k2m2, k2m3]
  instanceTypes := #[.int, .long, (.array .double), (.array .int), (.array .double), (.array .int), (.array .int), (.object "com/example/bidfold/bidfold/DualSimplex$State"), .double]
  staticTypes := #[.int, .int, .int, .int, .int]
  resolved := Array.replicate 237 none
  statics := none }

def pool3 : Array CpInfo := pool [(1, u "java/lang/Cloneable"), (0, .class_ 1), (0, u "java/lang/Object"), (0, .class_ 3)] 3

/-- java/lang/Cloneable -/
def k3 : Class := { plain "java/lang/Cloneable" (some 0) with
  accessFlags := 1537
  interfaces := #[]
  cf := some (fileOf pool3 2 #[] #[] 1537 4 #[] #[])
  fields := #[]
  methods := #[]
  instanceTypes := #[]
  staticTypes := #[]
  resolved := Array.replicate 8 none
  statics := none }

def pool4 : Array CpInfo := pool [(1, u "java/io/Serializable"), (0, .class_ 1), (0, u "java/lang/Object"), (0, .class_ 3)] 3

/-- java/io/Serializable -/
def k4 : Class := { plain "java/io/Serializable" (some 0) with
  accessFlags := 1537
  interfaces := #[]
  cf := some (fileOf pool4 2 #[] #[] 1537 4 #[] #[])
  fields := #[]
  methods := #[]
  instanceTypes := #[]
  staticTypes := #[]
  resolved := Array.replicate 8 none
  statics := none }

/-- the primitive byte -/
def k5 : Class := { plain "byte" none with kind := .primitive 'B', accessFlags := 0x411 }
/-- [B -/
def k6 : Class := { plain "[B" (some 0) with kind := .array 5 .byte, interfaces := #[3, 4], accessFlags := 1041 }

/-- the primitive double -/
def k7 : Class := { plain "double" none with kind := .primitive 'D', accessFlags := 0x411 }
/-- [D -/
def k8 : Class := { plain "[D" (some 0) with kind := .array 7 .double, interfaces := #[3, 4], accessFlags := 1041 }

/-- the primitive int -/
def k9 : Class := { plain "int" none with kind := .primitive 'I', accessFlags := 0x411 }
/-- [I -/
def k10 : Class := { plain "[I" (some 0) with kind := .array 9 .int, interfaces := #[3, 4], accessFlags := 1041 }

def heap : Heap := #[]
def classes : Array Class := #[k0, k1, k2, k3, k4, k5, k6, k7, k8, k9, k10]
def interned : List (Array UInt16 × Addr) := []
def slotsUsed : Nat := 0
def theMethod : MethodId := ⟨1, 1⟩
def args0 : Array Value := #[.int 5, .int 7, .int 9, .long 2]
def aboutOver (below : List Frame) : State where
  vm := { classes := classes, interned := interned.toArray }
  heap := heap
  slotsUsed := slotsUsed
  threads := #[{ frames := .invoking theMethod args0 :: below }]
def below0 : List Frame := [.native { method := ⟨0, 0⟩, args := #[] }]
def about1 : State := aboutOver below0
def p0 : Program := .bare "" "" ""
def e0 : Env := launch0.env 0 0 0
theorem w_frames : about1.frames = Frame.invoking theMethod args0 :: below0 := rfl
set_option maxRecDepth 65536 in
theorem w_args : argsFit about1.vm theMethod args0 = true := by decide +kernel
set_option maxRecDepth 65536 in
theorem w_heap : heapFits about1 = true := by decide +kernel
set_option maxRecDepth 65536 in
theorem w_runnable : about1.curStatus? = some .runnable := by decide +kernel
set_option maxRecDepth 65536 in
theorem w_alone : about1.alone = true := by decide +kernel
set_option maxRecDepth 65536 in
theorem w_named : about1.methodNamed? x = some theMethod := by decide +kernel
set_option maxRecDepth 65536 in
theorem w_hears : about1.hears theMethod below0 = true := by decide +kernel
set_option maxRecDepth 65536 in
theorem w_ripe : about1.ripe theMethod args0 below0 = true := by decide +kernel
theorem w_running : about1.status = .running := rfl
set_option maxRecDepth 65536 in
theorem w_room : about1.hasRoom e0.platform room_1 = true :=
  launch0.hasRoom_least _ room_1 (by decide +kernel) (by decide +kernel) (by decide +kernel) (by decide +kernel) (by decide +kernel) (by decide +kernel)
theorem allAtoms_all (ts : List Jvm.Cond) (a : Array Jvm.Value) (st : Jvm.State) : (allAtoms ts).before a st = ts.all (fun c => c.before a st) := by
  induction ts with
  | nil => rfl
  | cons c t ih =>
    show (Jvm.Cond.and c (allAtoms t)).before a st = _
    rw [Jvm.Cond.before_and, ih, List.all_cons]
def words1 : List Jvm.Cond := Jvm.Cond.code x code maxLocals ret :: tables_1
/-- a 'code' word, met by the world's own term for the bytes: nothing is compared byte by byte -/
theorem code_word {y : MethodName} {bytes : ByteArray} {mx : Nat} {rt : Option FieldType} {a : Array Value} {s : State} {m : MethodId} {meth : Method} {c : Code} (h1 : s.methodNamed? y = some m) (h2 : s.vm.method? m = some meth) (h3 : meth.code = some c) (h4 : c.code = bytes)
    (h5 : (c.maxLocals == mx && c.exceptionTable.isEmpty && decide (c.maxStack ≤ mostOperands) && decide (meth.sig.returnType = rt) && !meth.locks && decide (parseMethodDescriptor y.desc = some meth.sig)) = true) : (Jvm.Cond.code y bytes mx rt).before a s = true := by
  simp only [Bool.and_eq_true, beq_iff_eq, Bool.not_eq_true', decide_eq_true_eq] at h5
  obtain ⟨⟨⟨⟨⟨g1, g2⟩, g3⟩, g4⟩, g5⟩, g6⟩ := h5
  simp [Cond.before, Cond.holds, Cond.value, h1, h2, h3, h4, g1, g2, g3, g4, g5, g6]
def isCode : Jvm.Cond → Bool
  | .code _ _ _ _ => true
  | _ => false
theorem all_split {L : List Jvm.Cond} {P : Jvm.Cond → Bool} (h1 : L.all (fun c => isCode c || P c) = true) (h2 : ∀ c ∈ L.filter isCode, P c = true) : L.all P = true := by
  refine List.all_eq_true.mpr fun c hc => ?_
  have h := List.all_eq_true.mp h1 c hc
  rcases Bool.eq_false_or_eq_true (isCode c) with hi | hi
  · exact h2 c (List.mem_filter.mpr ⟨hc, hi⟩)
  · simpa [hi] using h
set_option maxRecDepth 65536 in
theorem w_c0 : (Jvm.Cond.code x code maxLocals ret).before args0 about1 = true := code_word (m := ⟨1, 1⟩) (meth := k1m1) (c := k1c1) (by decide +kernel) rfl rfl rfl (by decide +kernel)
set_option maxRecDepth 65536 in
theorem w_c1 : (Jvm.Cond.code ({ cls := "com/example/bidfold/bidfold/Branching", name := "<init>", desc := "(IJ)V" } : Jvm.MethodName) prog_13_method_1_code (4 : Nat) (Option.none : Option Jvm.ClassFile.FieldType)).before args0 about1 = true := code_word (m := ⟨2, 0⟩) (meth := k2m0) (c := k2c0) (by decide +kernel) rfl rfl rfl (by decide +kernel)
set_option maxRecDepth 65536 in
theorem w_c2 : (Jvm.Cond.code ({ cls := "java/lang/Object", name := "<init>", desc := "()V" } : Jvm.MethodName) object_method_1_code (1 : Nat) (Option.none : Option Jvm.ClassFile.FieldType)).before args0 about1 = true := code_word (m := ⟨0, 0⟩) (meth := k0m0) (c := k0c0) (by decide +kernel) rfl rfl rfl (by decide +kernel)
set_option maxRecDepth 65536 in
theorem w_c3 : (Jvm.Cond.code ({ cls := "com/example/bidfold/bidfold/Branching", name := "learn", desc := "(IZDD)V" } : Jvm.MethodName) prog_13_method_3_code (7 : Nat) (Option.none : Option Jvm.ClassFile.FieldType)).before args0 about1 = true := code_word (m := ⟨2, 1⟩) (meth := k2m1) (c := k2c1) (by decide +kernel) rfl rfl rfl (by decide +kernel)
set_option maxRecDepth 65536 in
theorem w_c4 : (Jvm.Cond.code ({ cls := "com/example/bidfold/bidfold/Branching", name := "leansIn", desc := "(ID)Z" } : Jvm.MethodName) prog_13_method_4_code (4 : Nat) (Option.some Jvm.ClassFile.FieldType.boolean)).before args0 about1 = true := code_word (m := ⟨2, 2⟩) (meth := k2m2) (c := k2c2) (by decide +kernel) rfl rfl rfl (by decide +kernel)
set_option maxRecDepth 65536 in
theorem w_c5 : (Jvm.Cond.code ({ cls := "com/example/bidfold/bidfold/Branching", name := "fallPerUnit", desc := "([D[IID)D" } : Jvm.MethodName) prog_13_method_7_code (5 : Nat) (Option.some Jvm.ClassFile.FieldType.double)).before args0 about1 = true := code_word (m := ⟨2, 3⟩) (meth := k2m3) (c := k2c3) (by decide +kernel) rfl rfl rfl (by decide +kernel)
def codes1 : List Jvm.Cond := [Jvm.Cond.code x code maxLocals ret, Jvm.Cond.code ({ cls := "com/example/bidfold/bidfold/Branching", name := "<init>", desc := "(IJ)V" } : Jvm.MethodName) prog_13_method_1_code (4 : Nat) (Option.none : Option Jvm.ClassFile.FieldType), Jvm.Cond.code ({ cls := "java/lang/Object", name := "<init>", desc := "()V" } : Jvm.MethodName) object_method_1_code (1 : Nat) (Option.none : Option Jvm.ClassFile.FieldType), Jvm.Cond.code ({ cls := "com/example/bidfold/bidfold/Branching", name := "learn", desc := "(IZDD)V" } : Jvm.MethodName) prog_13_method_3_code (7 : Nat) (Option.none : Option Jvm.ClassFile.FieldType), Jvm.Cond.code ({ cls := "com/example/bidfold/bidfold/Branching", name := "leansIn", desc := "(ID)Z" } : Jvm.MethodName) prog_13_method_4_code (4 : Nat) (Option.some Jvm.ClassFile.FieldType.boolean), Jvm.Cond.code ({ cls := "com/example/bidfold/bidfold/Branching", name := "fallPerUnit", desc := "([D[IID)D" } : Jvm.MethodName) prog_13_method_7_code (5 : Nat) (Option.some Jvm.ClassFile.FieldType.double)]
set_option maxRecDepth 65536 in
theorem codes_eq : words1.filter isCode = codes1 := rfl
theorem w_codes : ∀ c ∈ words1.filter isCode, c.before args0 about1 = true := by
  rw [codes_eq]
  intro c hc
  simp only [codes1, List.mem_cons, List.not_mem_nil, or_false] at hc
  rcases hc with rfl | rfl | rfl | rfl | rfl | rfl
  · exact w_c0
  · exact w_c1
  · exact w_c2
  · exact w_c3
  · exact w_c4
  · exact w_c5
set_option maxRecDepth 65536 in
theorem w_t1 : (words1.take 24).all (fun c => isCode c || c.before args0 about1) = true := by decide +kernel
set_option maxRecDepth 65536 in
theorem w_t2 : (words1.drop 24).all (fun c => isCode c || c.before args0 about1) = true := by decide +kernel
theorem w_tables : (allAtoms (Jvm.Cond.code x code maxLocals ret :: tables_1)).before args0 about1 = true := by
  rw [allAtoms_all]
  show words1.all (fun c => c.before args0 about1) = true
  refine all_split ?_ w_codes
  rw [← List.take_append_drop 24 words1, List.all_append, w_t1, w_t2]
  rfl
set_option maxRecDepth 65536 in
theorem w_case : (Jvm.Cond.and given_1 narrow_1).before args0 about1 = true := by decide +kernel
theorem w_applies : (headSpec (Jvm.Cond.code x code maxLocals ret :: tables_1) room_1).applies x e0.platform about1 = true :=
  (Spec.applies_iff w_frames).mpr ⟨w_running, w_runnable, w_alone, w_named, w_hears, w_ripe, w_room, w_tables⟩
theorem atStart : AtStart classFile x code maxLocals ret World_1 tables_1 room_1 Calls_1 rest_1 Pre_1 launch0 p0 e0 about1 theMethod args0 below0 :=
  ⟨lists_1, trivial, launch0.admits_env _ _ _, launch0.least_env, fairChoices_fair.cas, fairChoices_fair.clock, w_frames, w_args, w_heap, w_applies, trivial, trivial, w_case⟩
end start1
theorem witness_1 : WitnessClaimed_1 := ⟨start1.p0, start1.e0, start1.about1, start1.theMethod, start1.args0, start1.below0, start1.atStart⟩
end Jvm.Pilot.@@N@@
