import JvmDerived
import JvmDerived.Pilot.@@N@@Statement
import JvmDerived.Pilot.@@N@@Code
set_option linter.unusedVariables false
set_option linter.unusedSimpArgs false
namespace Jvm.Pilot.@@N@@
open Jvm Jvm.ClassFile Sem Op Lib Jvm.Free Jvm.Stand Jvm.LawKit Jvm.RoadKit Jvm.Free.Fl Bundle Jvm.Pilot.@@N@@.Jvm.D
section OwnG
variable {p : Program} {l : Launch} {e : Env} {R : Room} {s : State} {m : MethodId} {args : Array Value} {below : List Frame} {meth : Method} {c : Code} {T : State} {locs : List Loc} {cells slots : Nat} {Z : State} {a0 : Array Value} {h : Heap} {B : ByteArray} {pc pc' : Nat} {L L' : Array Slot} {rest : List Value} {F : Outcome → State → Prop}
def Gt (tb : Tables) (e : Env) (below : List Frame) (F : Outcome → State → Prop) (S : State) : Prop := ∃ s₂ o, Steps tb e below S s₂ ∧ s₂.status = .running ∧ Ended s₂ below o ∧ F o s₂
theorem Gt.go {tb : Tables} {S S' : State} (k : Gt tb e below F S') (q : ∀ t, Steps tb e below S' t → Steps tb e below S t) : Gt tb e below F S := by
  obtain ⟨a, o, h1, h2⟩ := k; exact ⟨a, o, q _ h1, h2⟩
theorem own_join {tb : Tables} {S S' : State} (q : ∀ F', Gt tb e below F' S' → Gt tb e below F' S) (k : Gt tb e below F S') : Gt tb e below F S := q F k
theorem own_cast {tb : Tables} {g g' : JFrame} (q : g = g') (k : Gt tb e below F (T.setTop g')) : Gt tb e below F (T.setTop g) := q ▸ k
theorem own_iadd (X : Stand p l e R s m args below meth c T locs cells slots) (hx : p.tables.exec = Jvm.exec) (hby : c.code = B) {x y v : Int32} (hv : x + y = v) (hd : decode B pc = .ok (.iadd, 1)) (hp : pc + 1 = pc') (k : Gt p.tables e below F (T.setTop (mkF m pc' L (.int v :: rest)))) : Gt p.tables e below F (T.setTop (mkF m pc L (.int y :: .int x :: rest))) := by
  subst hp; exact (by subst hv; exact k.go fun t q => XS.iadd X.here hx rfl (hb hby hd) rfl q)
theorem own_isub (X : Stand p l e R s m args below meth c T locs cells slots) (hx : p.tables.exec = Jvm.exec) (hby : c.code = B) {x y v : Int32} (hv : x - y = v) (hd : decode B pc = .ok (.isub, 1)) (hp : pc + 1 = pc') (k : Gt p.tables e below F (T.setTop (mkF m pc' L (.int v :: rest)))) : Gt p.tables e below F (T.setTop (mkF m pc L (.int y :: .int x :: rest))) := by
  subst hp; exact (by subst hv; exact k.go fun t q => XS.isub X.here hx rfl (hb hby hd) rfl q)
theorem own_imul (X : Stand p l e R s m args below meth c T locs cells slots) (hx : p.tables.exec = Jvm.exec) (hby : c.code = B) {x y v : Int32} (hv : x * y = v) (hd : decode B pc = .ok (.imul, 1)) (hp : pc + 1 = pc') (k : Gt p.tables e below F (T.setTop (mkF m pc' L (.int v :: rest)))) : Gt p.tables e below F (T.setTop (mkF m pc L (.int y :: .int x :: rest))) := by
  subst hp; exact (by subst hv; exact k.go fun t q => XS.imul X.here hx rfl (hb hby hd) rfl q)
theorem own_iand (X : Stand p l e R s m args below meth c T locs cells slots) (hx : p.tables.exec = Jvm.exec) (hby : c.code = B) {x y v : Int32} (hv : x &&& y = v) (hd : decode B pc = .ok (.iand, 1)) (hp : pc + 1 = pc') (k : Gt p.tables e below F (T.setTop (mkF m pc' L (.int v :: rest)))) : Gt p.tables e below F (T.setTop (mkF m pc L (.int y :: .int x :: rest))) := by
  subst hp; exact (by subst hv; exact k.go fun t q => XS.iand X.here hx rfl (hb hby hd) rfl q)
theorem own_ior (X : Stand p l e R s m args below meth c T locs cells slots) (hx : p.tables.exec = Jvm.exec) (hby : c.code = B) {x y v : Int32} (hv : x ||| y = v) (hd : decode B pc = .ok (.ior, 1)) (hp : pc + 1 = pc') (k : Gt p.tables e below F (T.setTop (mkF m pc' L (.int v :: rest)))) : Gt p.tables e below F (T.setTop (mkF m pc L (.int y :: .int x :: rest))) := by
  subst hp; exact (by subst hv; exact k.go fun t q => XS.ior X.here hx rfl (hb hby hd) rfl q)
theorem own_ixor (X : Stand p l e R s m args below meth c T locs cells slots) (hx : p.tables.exec = Jvm.exec) (hby : c.code = B) {x y v : Int32} (hv : x ^^^ y = v) (hd : decode B pc = .ok (.ixor, 1)) (hp : pc + 1 = pc') (k : Gt p.tables e below F (T.setTop (mkF m pc' L (.int v :: rest)))) : Gt p.tables e below F (T.setTop (mkF m pc L (.int y :: .int x :: rest))) := by
  subst hp; exact (by subst hv; exact k.go fun t q => XS.ixor X.here hx rfl (hb hby hd) rfl q)
theorem own_ishl (X : Stand p l e R s m args below meth c T locs cells slots) (hx : p.tables.exec = Jvm.exec) (hby : c.code = B) {x y v : Int32} (hv : x <<< (y &&& 31) = v) (hd : decode B pc = .ok (.ishl, 1)) (hp : pc + 1 = pc') (k : Gt p.tables e below F (T.setTop (mkF m pc' L (.int v :: rest)))) : Gt p.tables e below F (T.setTop (mkF m pc L (.int y :: .int x :: rest))) := by
  subst hp; exact (by subst hv; exact k.go fun t q => XS.ishl X.here hx rfl (hb hby hd) rfl q)
theorem own_ishr (X : Stand p l e R s m args below meth c T locs cells slots) (hx : p.tables.exec = Jvm.exec) (hby : c.code = B) {x y v : Int32} (hv : x >>> (y &&& 31) = v) (hd : decode B pc = .ok (.ishr, 1)) (hp : pc + 1 = pc') (k : Gt p.tables e below F (T.setTop (mkF m pc' L (.int v :: rest)))) : Gt p.tables e below F (T.setTop (mkF m pc L (.int y :: .int x :: rest))) := by
  subst hp; exact (by subst hv; exact k.go fun t q => XS.ishr X.here hx rfl (hb hby hd) rfl q)
theorem own_iushr (X : Stand p l e R s m args below meth c T locs cells slots) (hx : p.tables.exec = Jvm.exec) (hby : c.code = B) {x y v : Int32} (hv : (x.toUInt32 >>> (y &&& 31).toUInt32).toInt32 = v) (hd : decode B pc = .ok (.iushr, 1)) (hp : pc + 1 = pc') (k : Gt p.tables e below F (T.setTop (mkF m pc' L (.int v :: rest)))) : Gt p.tables e below F (T.setTop (mkF m pc L (.int y :: .int x :: rest))) := by
  subst hp; exact (by subst hv; exact k.go fun t q => XS.iushr X.here hx rfl (hb hby hd) rfl q)
theorem own_ladd (X : Stand p l e R s m args below meth c T locs cells slots) (hx : p.tables.exec = Jvm.exec) (hby : c.code = B) {x y v : Int64} (hv : x + y = v) (hd : decode B pc = .ok (.ladd, 1)) (hp : pc + 1 = pc') (k : Gt p.tables e below F (T.setTop (mkF m pc' L (.long v :: rest)))) : Gt p.tables e below F (T.setTop (mkF m pc L (.long y :: .long x :: rest))) := by
  subst hp; exact (by subst hv; exact k.go fun t q => XS.ladd X.here hx rfl (hb hby hd) rfl q)
theorem own_lsub (X : Stand p l e R s m args below meth c T locs cells slots) (hx : p.tables.exec = Jvm.exec) (hby : c.code = B) {x y v : Int64} (hv : x - y = v) (hd : decode B pc = .ok (.lsub, 1)) (hp : pc + 1 = pc') (k : Gt p.tables e below F (T.setTop (mkF m pc' L (.long v :: rest)))) : Gt p.tables e below F (T.setTop (mkF m pc L (.long y :: .long x :: rest))) := by
  subst hp; exact (by subst hv; exact k.go fun t q => XS.lsub X.here hx rfl (hb hby hd) rfl q)
theorem own_lmul (X : Stand p l e R s m args below meth c T locs cells slots) (hx : p.tables.exec = Jvm.exec) (hby : c.code = B) {x y v : Int64} (hv : x * y = v) (hd : decode B pc = .ok (.lmul, 1)) (hp : pc + 1 = pc') (k : Gt p.tables e below F (T.setTop (mkF m pc' L (.long v :: rest)))) : Gt p.tables e below F (T.setTop (mkF m pc L (.long y :: .long x :: rest))) := by
  subst hp; exact (by subst hv; exact k.go fun t q => XS.lmul X.here hx rfl (hb hby hd) rfl q)
theorem own_land (X : Stand p l e R s m args below meth c T locs cells slots) (hx : p.tables.exec = Jvm.exec) (hby : c.code = B) {x y v : Int64} (hv : x &&& y = v) (hd : decode B pc = .ok (.land, 1)) (hp : pc + 1 = pc') (k : Gt p.tables e below F (T.setTop (mkF m pc' L (.long v :: rest)))) : Gt p.tables e below F (T.setTop (mkF m pc L (.long y :: .long x :: rest))) := by
  subst hp; exact (by subst hv; exact k.go fun t q => XS.land X.here hx rfl (hb hby hd) rfl q)
theorem own_lor (X : Stand p l e R s m args below meth c T locs cells slots) (hx : p.tables.exec = Jvm.exec) (hby : c.code = B) {x y v : Int64} (hv : x ||| y = v) (hd : decode B pc = .ok (.lor, 1)) (hp : pc + 1 = pc') (k : Gt p.tables e below F (T.setTop (mkF m pc' L (.long v :: rest)))) : Gt p.tables e below F (T.setTop (mkF m pc L (.long y :: .long x :: rest))) := by
  subst hp; exact (by subst hv; exact k.go fun t q => XS.lor X.here hx rfl (hb hby hd) rfl q)
theorem own_lxor (X : Stand p l e R s m args below meth c T locs cells slots) (hx : p.tables.exec = Jvm.exec) (hby : c.code = B) {x y v : Int64} (hv : x ^^^ y = v) (hd : decode B pc = .ok (.lxor, 1)) (hp : pc + 1 = pc') (k : Gt p.tables e below F (T.setTop (mkF m pc' L (.long v :: rest)))) : Gt p.tables e below F (T.setTop (mkF m pc L (.long y :: .long x :: rest))) := by
  subst hp; exact (by subst hv; exact k.go fun t q => XS.lxor X.here hx rfl (hb hby hd) rfl q)
theorem own_lshl (X : Stand p l e R s m args below meth c T locs cells slots) (hx : p.tables.exec = Jvm.exec) (hby : c.code = B) {x v : Int64} {y : Int32} (hv : x <<< (y &&& 0x3f).toInt64 = v) (hd : decode B pc = .ok (.lshl, 1)) (hp : pc + 1 = pc') (k : Gt p.tables e below F (T.setTop (mkF m pc' L (.long v :: rest)))) : Gt p.tables e below F (T.setTop (mkF m pc L (.int y :: .long x :: rest))) := by
  subst hp; exact (by subst hv; exact k.go fun t q => XS.lshl X.here hx rfl (hb hby hd) rfl q)
theorem own_lshr (X : Stand p l e R s m args below meth c T locs cells slots) (hx : p.tables.exec = Jvm.exec) (hby : c.code = B) {x v : Int64} {y : Int32} (hv : x >>> (y &&& 0x3f).toInt64 = v) (hd : decode B pc = .ok (.lshr, 1)) (hp : pc + 1 = pc') (k : Gt p.tables e below F (T.setTop (mkF m pc' L (.long v :: rest)))) : Gt p.tables e below F (T.setTop (mkF m pc L (.int y :: .long x :: rest))) := by
  subst hp; exact (by subst hv; exact k.go fun t q => XS.lshr X.here hx rfl (hb hby hd) rfl q)
theorem own_lushr (X : Stand p l e R s m args below meth c T locs cells slots) (hx : p.tables.exec = Jvm.exec) (hby : c.code = B) {x v : Int64} {y : Int32} (hv : (x.toUInt64 >>> (y &&& 0x3f).toInt64.toUInt64).toInt64 = v) (hd : decode B pc = .ok (.lushr, 1)) (hp : pc + 1 = pc') (k : Gt p.tables e below F (T.setTop (mkF m pc' L (.long v :: rest)))) : Gt p.tables e below F (T.setTop (mkF m pc L (.int y :: .long x :: rest))) := by
  subst hp; exact (by subst hv; exact k.go fun t q => XS.lushr X.here hx rfl (hb hby hd) rfl q)
theorem own_idiv (X : Stand p l e R s m args below meth c T locs cells slots) (hx : p.tables.exec = Jvm.exec) (hby : c.code = B) {x y v : Int32} (hy : y ≠ 0) (hv : x / y = v) (hd : decode B pc = .ok (.idiv, 1)) (hp : pc + 1 = pc') (k : Gt p.tables e below F (T.setTop (mkF m pc' L (.int v :: rest)))) : Gt p.tables e below F (T.setTop (mkF m pc L (.int y :: .int x :: rest))) := by
  subst hp; exact (by subst hv; exact k.go fun t q => XS.idiv X.here hx rfl (hb hby hd) rfl hy q)
theorem own_irem (X : Stand p l e R s m args below meth c T locs cells slots) (hx : p.tables.exec = Jvm.exec) (hby : c.code = B) {x y v : Int32} (hy : y ≠ 0) (hv : x % y = v) (hd : decode B pc = .ok (.irem, 1)) (hp : pc + 1 = pc') (k : Gt p.tables e below F (T.setTop (mkF m pc' L (.int v :: rest)))) : Gt p.tables e below F (T.setTop (mkF m pc L (.int y :: .int x :: rest))) := by
  subst hp; exact (by subst hv; exact k.go fun t q => iremM X hx rfl (hb hby hd) rfl hy q)
theorem own_ldiv (X : Stand p l e R s m args below meth c T locs cells slots) (hx : p.tables.exec = Jvm.exec) (hby : c.code = B) {x y v : Int64} (hy : y ≠ 0) (hv : x / y = v) (hd : decode B pc = .ok (.ldiv, 1)) (hp : pc + 1 = pc') (k : Gt p.tables e below F (T.setTop (mkF m pc' L (.long v :: rest)))) : Gt p.tables e below F (T.setTop (mkF m pc L (.long y :: .long x :: rest))) := by
  subst hp; exact (by subst hv; exact k.go fun t q => XS.ldiv X.here hx rfl (hb hby hd) rfl hy q)
theorem own_lrem (X : Stand p l e R s m args below meth c T locs cells slots) (hx : p.tables.exec = Jvm.exec) (hby : c.code = B) {x y v : Int64} (hy : y ≠ 0) (hv : x % y = v) (hd : decode B pc = .ok (.lrem, 1)) (hp : pc + 1 = pc') (k : Gt p.tables e below F (T.setTop (mkF m pc' L (.long v :: rest)))) : Gt p.tables e below F (T.setTop (mkF m pc L (.long y :: .long x :: rest))) := by
  subst hp; exact (by subst hv; rw [← lrem_mod] at k; exact k.go fun t q => XS.lrem X.here hx rfl (hb hby hd) rfl hy q)
theorem own_lcmp (X : Stand p l e R s m args below meth c T locs cells slots) (hx : p.tables.exec = Jvm.exec) (hby : c.code = B) {x y : Int64} {v : Int32} (hv : (if x > y then 1 else if x = y then 0 else -1 : Int32) = v) (hd : decode B pc = .ok (.lcmp, 1)) (hp : pc + 1 = pc') (k : Gt p.tables e below F (T.setTop (mkF m pc' L (.int v :: rest)))) : Gt p.tables e below F (T.setTop (mkF m pc L (.long y :: .long x :: rest))) := by
  subst hp; exact (by subst hv; exact k.go fun t q => XS.lcmp X.here hx rfl (hb hby hd) rfl q)
theorem own_ineg (X : Stand p l e R s m args below meth c T locs cells slots) (hx : p.tables.exec = Jvm.exec) (hby : c.code = B) {x v : Int32} (hv : -x = v) (hd : decode B pc = .ok (.ineg, 1)) (hp : pc + 1 = pc') (k : Gt p.tables e below F (T.setTop (mkF m pc' L (.int v :: rest)))) : Gt p.tables e below F (T.setTop (mkF m pc L (.int x :: rest))) := by
  subst hp; exact (by subst hv; exact k.go fun t q => XS.ineg X.here hx rfl (hb hby hd) rfl q)
theorem own_lneg (X : Stand p l e R s m args below meth c T locs cells slots) (hx : p.tables.exec = Jvm.exec) (hby : c.code = B) {x v : Int64} (hv : -x = v) (hd : decode B pc = .ok (.lneg, 1)) (hp : pc + 1 = pc') (k : Gt p.tables e below F (T.setTop (mkF m pc' L (.long v :: rest)))) : Gt p.tables e below F (T.setTop (mkF m pc L (.long x :: rest))) := by
  subst hp; exact (by subst hv; exact k.go fun t q => XS.lneg X.here hx rfl (hb hby hd) rfl q)
theorem own_i2b (X : Stand p l e R s m args below meth c T locs cells slots) (hx : p.tables.exec = Jvm.exec) (hby : c.code = B) {x v : Int32} (hv : x.toInt8.toInt32 = v) (hd : decode B pc = .ok (.i2b, 1)) (hp : pc + 1 = pc') (k : Gt p.tables e below F (T.setTop (mkF m pc' L (.int v :: rest)))) : Gt p.tables e below F (T.setTop (mkF m pc L (.int x :: rest))) := by
  subst hp; exact (by subst hv; exact k.go fun t q => XS.i2b X.here hx rfl (hb hby hd) rfl q)
theorem own_i2c (X : Stand p l e R s m args below meth c T locs cells slots) (hx : p.tables.exec = Jvm.exec) (hby : c.code = B) {x v : Int32} (hv : x.toUInt32.toUInt16.toUInt32.toInt32 = v) (hd : decode B pc = .ok (.i2c, 1)) (hp : pc + 1 = pc') (k : Gt p.tables e below F (T.setTop (mkF m pc' L (.int v :: rest)))) : Gt p.tables e below F (T.setTop (mkF m pc L (.int x :: rest))) := by
  subst hp; exact (by subst hv; exact k.go fun t q => XS.i2c X.here hx rfl (hb hby hd) rfl q)
theorem own_i2s (X : Stand p l e R s m args below meth c T locs cells slots) (hx : p.tables.exec = Jvm.exec) (hby : c.code = B) {x v : Int32} (hv : x.toInt16.toInt32 = v) (hd : decode B pc = .ok (.i2s, 1)) (hp : pc + 1 = pc') (k : Gt p.tables e below F (T.setTop (mkF m pc' L (.int v :: rest)))) : Gt p.tables e below F (T.setTop (mkF m pc L (.int x :: rest))) := by
  subst hp; exact (by subst hv; exact k.go fun t q => XS.i2s X.here hx rfl (hb hby hd) rfl q)
theorem own_i2l (X : Stand p l e R s m args below meth c T locs cells slots) (hx : p.tables.exec = Jvm.exec) (hby : c.code = B) {x : Int32} {v : Int64} (hv : x.toInt64 = v) (hd : decode B pc = .ok (.i2l, 1)) (hp : pc + 1 = pc') (k : Gt p.tables e below F (T.setTop (mkF m pc' L (.long v :: rest)))) : Gt p.tables e below F (T.setTop (mkF m pc L (.int x :: rest))) := by
  subst hp; exact (by subst hv; exact k.go fun t q => XS.i2l X.here hx rfl (hb hby hd) rfl q)
theorem own_l2i (X : Stand p l e R s m args below meth c T locs cells slots) (hx : p.tables.exec = Jvm.exec) (hby : c.code = B) {x : Int64} {v : Int32} (hv : x.toInt32 = v) (hd : decode B pc = .ok (.l2i, 1)) (hp : pc + 1 = pc') (k : Gt p.tables e below F (T.setTop (mkF m pc' L (.int v :: rest)))) : Gt p.tables e below F (T.setTop (mkF m pc L (.long x :: rest))) := by
  subst hp; exact (by subst hv; exact k.go fun t q => XS.l2i X.here hx rfl (hb hby hd) rfl q)
theorem own_iload (X : Stand p l e R s m args below meth c T locs cells slots) (hx : p.tables.exec = Jvm.exec) (hby : c.code = B) {i : Nat} {v : Int32} (hl : L[i]? = some (.val (.int v))) (hd : decode B pc = .ok (.iload i, 2)) (hp : pc + 2 = pc') (k : Gt p.tables e below F (T.setTop (mkF m pc' L (.int v :: rest)))) : Gt p.tables e below F (T.setTop (mkF m pc L rest)) := by
  subst hp; exact k.go fun t q => XS.iload X.here hx rfl (hb hby hd) hl q
theorem own_iloadN (X : Stand p l e R s m args below meth c T locs cells slots) (hx : p.tables.exec = Jvm.exec) (hby : c.code = B) {i : Fin 4} {v : Int32} (hl : L[i.val]? = some (.val (.int v))) (hd : decode B pc = .ok (.iload_n i, 1)) (hp : pc + 1 = pc') (k : Gt p.tables e below F (T.setTop (mkF m pc' L (.int v :: rest)))) : Gt p.tables e below F (T.setTop (mkF m pc L rest)) := by
  subst hp; exact k.go fun t q => XS.iloadN X.here hx rfl (hb hby hd) hl q
theorem own_lload (X : Stand p l e R s m args below meth c T locs cells slots) (hx : p.tables.exec = Jvm.exec) (hby : c.code = B) {i : Nat} {v : Int64} (hl : L[i]? = some (.val (.long v))) (hd : decode B pc = .ok (.lload i, 2)) (hp : pc + 2 = pc') (k : Gt p.tables e below F (T.setTop (mkF m pc' L (.long v :: rest)))) : Gt p.tables e below F (T.setTop (mkF m pc L rest)) := by
  subst hp; exact k.go fun t q => XS.lload X.here hx rfl (hb hby hd) hl q
theorem own_lloadN (X : Stand p l e R s m args below meth c T locs cells slots) (hx : p.tables.exec = Jvm.exec) (hby : c.code = B) {i : Fin 4} {v : Int64} (hl : L[i.val]? = some (.val (.long v))) (hd : decode B pc = .ok (.lload_n i, 1)) (hp : pc + 1 = pc') (k : Gt p.tables e below F (T.setTop (mkF m pc' L (.long v :: rest)))) : Gt p.tables e below F (T.setTop (mkF m pc L rest)) := by
  subst hp; exact k.go fun t q => XS.lloadN X.here hx rfl (hb hby hd) hl q
theorem own_dload (X : Stand p l e R s m args below meth c T locs cells slots) (hx : p.tables.exec = Jvm.exec) (hby : c.code = B) {i : Nat} {v : UInt64} (hl : L[i]? = some (.val (.double v))) (hd : decode B pc = .ok (.dload i, 2)) (hp : pc + 2 = pc') (k : Gt p.tables e below F (T.setTop (mkF m pc' L (.double v :: rest)))) : Gt p.tables e below F (T.setTop (mkF m pc L rest)) := by
  subst hp; exact k.go fun t q => XS.dload X.here hx rfl (hb hby hd) hl q
theorem own_dloadN (X : Stand p l e R s m args below meth c T locs cells slots) (hx : p.tables.exec = Jvm.exec) (hby : c.code = B) {i : Fin 4} {v : UInt64} (hl : L[i.val]? = some (.val (.double v))) (hd : decode B pc = .ok (.dload_n i, 1)) (hp : pc + 1 = pc') (k : Gt p.tables e below F (T.setTop (mkF m pc' L (.double v :: rest)))) : Gt p.tables e below F (T.setTop (mkF m pc L rest)) := by
  subst hp; exact k.go fun t q => XS.dloadN X.here hx rfl (hb hby hd) hl q
theorem own_aload (X : Stand p l e R s m args below meth c T locs cells slots) (hx : p.tables.exec = Jvm.exec) (hby : c.code = B) {i : Nat} {v : Value} (hl : L[i]? = some (.val v)) (hr : v.isRef = true) (hd : decode B pc = .ok (.aload i, 2)) (hp : pc + 2 = pc') (k : Gt p.tables e below F (T.setTop (mkF m pc' L (v :: rest)))) : Gt p.tables e below F (T.setTop (mkF m pc L rest)) := by
  subst hp; exact k.go fun t q => XS.aload X.here hx rfl (hb hby hd) hl hr q
theorem own_aloadN (X : Stand p l e R s m args below meth c T locs cells slots) (hx : p.tables.exec = Jvm.exec) (hby : c.code = B) {i : Fin 4} {v : Value} (hl : L[i.val]? = some (.val v)) (hr : v.isRef = true) (hd : decode B pc = .ok (.aload_n i, 1)) (hp : pc + 1 = pc') (k : Gt p.tables e below F (T.setTop (mkF m pc' L (v :: rest)))) : Gt p.tables e below F (T.setTop (mkF m pc L rest)) := by
  subst hp; exact k.go fun t q => XS.aloadN X.here hx rfl (hb hby hd) hl hr q
theorem own_istore (X : Stand p l e R s m args below meth c T locs cells slots) (hx : p.tables.exec = Jvm.exec) (hby : c.code = B) {i : Nat} {v : Int32} (hl : storeLocals L i (.int v) = some L') (hd : decode B pc = .ok (.istore i, 2)) (hp : pc + 2 = pc') (k : Gt p.tables e below F (T.setTop (mkF m pc' L' rest))) : Gt p.tables e below F (T.setTop (mkF m pc L (.int v :: rest))) := by
  subst hp; exact k.go fun t q => XS.istore X.here hx rfl (hb hby hd) rfl hl q
theorem own_istoreN (X : Stand p l e R s m args below meth c T locs cells slots) (hx : p.tables.exec = Jvm.exec) (hby : c.code = B) {i : Fin 4} {v : Int32} (hl : storeLocals L i.val (.int v) = some L') (hd : decode B pc = .ok (.istore_n i, 1)) (hp : pc + 1 = pc') (k : Gt p.tables e below F (T.setTop (mkF m pc' L' rest))) : Gt p.tables e below F (T.setTop (mkF m pc L (.int v :: rest))) := by
  subst hp; exact k.go fun t q => XS.istoreN X.here hx rfl (hb hby hd) rfl hl q
theorem own_lstore (X : Stand p l e R s m args below meth c T locs cells slots) (hx : p.tables.exec = Jvm.exec) (hby : c.code = B) {i : Nat} {v : Int64} (hl : storeLocals L i (.long v) = some L') (hd : decode B pc = .ok (.lstore i, 2)) (hp : pc + 2 = pc') (k : Gt p.tables e below F (T.setTop (mkF m pc' L' rest))) : Gt p.tables e below F (T.setTop (mkF m pc L (.long v :: rest))) := by
  subst hp; exact k.go fun t q => XS.lstore X.here hx rfl (hb hby hd) rfl hl q
theorem own_lstoreN (X : Stand p l e R s m args below meth c T locs cells slots) (hx : p.tables.exec = Jvm.exec) (hby : c.code = B) {i : Fin 4} {v : Int64} (hl : storeLocals L i.val (.long v) = some L') (hd : decode B pc = .ok (.lstore_n i, 1)) (hp : pc + 1 = pc') (k : Gt p.tables e below F (T.setTop (mkF m pc' L' rest))) : Gt p.tables e below F (T.setTop (mkF m pc L (.long v :: rest))) := by
  subst hp; exact k.go fun t q => XS.lstoreN X.here hx rfl (hb hby hd) rfl hl q
theorem own_dstore (X : Stand p l e R s m args below meth c T locs cells slots) (hx : p.tables.exec = Jvm.exec) (hby : c.code = B) {i : Nat} {v : UInt64} (hl : storeLocals L i (.double v) = some L') (hd : decode B pc = .ok (.dstore i, 2)) (hp : pc + 2 = pc') (k : Gt p.tables e below F (T.setTop (mkF m pc' L' rest))) : Gt p.tables e below F (T.setTop (mkF m pc L (.double v :: rest))) := by
  subst hp; exact k.go fun t q => XS.dstore X.here hx rfl (hb hby hd) rfl hl q
theorem own_dstoreN (X : Stand p l e R s m args below meth c T locs cells slots) (hx : p.tables.exec = Jvm.exec) (hby : c.code = B) {i : Fin 4} {v : UInt64} (hl : storeLocals L i.val (.double v) = some L') (hd : decode B pc = .ok (.dstore_n i, 1)) (hp : pc + 1 = pc') (k : Gt p.tables e below F (T.setTop (mkF m pc' L' rest))) : Gt p.tables e below F (T.setTop (mkF m pc L (.double v :: rest))) := by
  subst hp; exact k.go fun t q => XS.dstoreN X.here hx rfl (hb hby hd) rfl hl q
theorem own_astore (X : Stand p l e R s m args below meth c T locs cells slots) (hx : p.tables.exec = Jvm.exec) (hby : c.code = B) {i : Nat} {v : Value} (hr : v.isRef = true) (hl : storeLocals L i v = some L') (hd : decode B pc = .ok (.astore i, 2)) (hp : pc + 2 = pc') (k : Gt p.tables e below F (T.setTop (mkF m pc' L' rest))) : Gt p.tables e below F (T.setTop (mkF m pc L (v :: rest))) := by
  subst hp; exact k.go fun t q => XS.astore X.here hx rfl (hb hby hd) rfl hr hl q
theorem own_astoreN (X : Stand p l e R s m args below meth c T locs cells slots) (hx : p.tables.exec = Jvm.exec) (hby : c.code = B) {i : Fin 4} {v : Value} (hr : v.isRef = true) (hl : storeLocals L i.val v = some L') (hd : decode B pc = .ok (.astore_n i, 1)) (hp : pc + 1 = pc') (k : Gt p.tables e below F (T.setTop (mkF m pc' L' rest))) : Gt p.tables e below F (T.setTop (mkF m pc L (v :: rest))) := by
  subst hp; exact k.go fun t q => XS.astoreN X.here hx rfl (hb hby hd) rfl hr hl q
theorem own_iinc (X : Stand p l e R s m args below meth c T locs cells slots) (hx : p.tables.exec = Jvm.exec) (hby : c.code = B) {i : Nat} {cst : Int} {x : Int32} (hl : L[i]? = some (.val (.int x))) (hl' : storeLocals L i (.int (x + Int32.ofInt cst)) = some L') (hd : decode B pc = .ok (.iinc i cst, 3)) (hp : pc + 3 = pc') (k : Gt p.tables e below F (T.setTop (mkF m pc' L' rest))) : Gt p.tables e below F (T.setTop (mkF m pc L rest)) := by
  subst hp; exact k.go fun t q => XS.iinc X.here hx rfl (hb hby hd) hl hl' q
theorem own_iconst (X : Stand p l e R s m args below meth c T locs cells slots) (hx : p.tables.exec = Jvm.exec) (hby : c.code = B) {i : Int} {v : Int32} (hv : Int32.ofInt i = v) (hd : decode B pc = .ok (.iconst i, 1)) (hp : pc + 1 = pc') (k : Gt p.tables e below F (T.setTop (mkF m pc' L (.int v :: rest)))) : Gt p.tables e below F (T.setTop (mkF m pc L rest)) := by
  subst hp; exact (by subst hv; exact k.go fun t q => XS.iconst X.here hx rfl (hb hby hd) q)
theorem own_bipush (X : Stand p l e R s m args below meth c T locs cells slots) (hx : p.tables.exec = Jvm.exec) (hby : c.code = B) {i : Int} {v : Int32} (hv : (Int8.ofInt i).toInt32 = v) (hd : decode B pc = .ok (.bipush i, 2)) (hp : pc + 2 = pc') (k : Gt p.tables e below F (T.setTop (mkF m pc' L (.int v :: rest)))) : Gt p.tables e below F (T.setTop (mkF m pc L rest)) := by
  subst hp; exact (by subst hv; exact k.go fun t q => XS.bipush X.here hx rfl (hb hby hd) q)
theorem own_sipush (X : Stand p l e R s m args below meth c T locs cells slots) (hx : p.tables.exec = Jvm.exec) (hby : c.code = B) {i : Int} {v : Int32} (hv : (Int16.ofInt i).toInt32 = v) (hd : decode B pc = .ok (.sipush i, 3)) (hp : pc + 3 = pc') (k : Gt p.tables e below F (T.setTop (mkF m pc' L (.int v :: rest)))) : Gt p.tables e below F (T.setTop (mkF m pc L rest)) := by
  subst hp; exact (by subst hv; exact k.go fun t q => XS.sipush X.here hx rfl (hb hby hd) q)
theorem own_lconst (X : Stand p l e R s m args below meth c T locs cells slots) (hx : p.tables.exec = Jvm.exec) (hby : c.code = B) {i : Fin 2} {v : Int64} (hv : Int64.ofNat i = v) (hd : decode B pc = .ok (.lconst i, 1)) (hp : pc + 1 = pc') (k : Gt p.tables e below F (T.setTop (mkF m pc' L (.long v :: rest)))) : Gt p.tables e below F (T.setTop (mkF m pc L rest)) := by
  subst hp; exact (by subst hv; exact k.go fun t q => XS.lconst X.here hx rfl (hb hby hd) q)
theorem own_aconst (X : Stand p l e R s m args below meth c T locs cells slots) (hx : p.tables.exec = Jvm.exec) (hby : c.code = B)  (hd : decode B pc = .ok (.aconst_null, 1)) (hp : pc + 1 = pc') (k : Gt p.tables e below F (T.setTop (mkF m pc' L (.null :: rest)))) : Gt p.tables e below F (T.setTop (mkF m pc L rest)) := by
  subst hp; exact k.go fun t q => XS.aconstNull X.here hx rfl (hb hby hd) q
theorem own_dconst0 (X : Stand p l e R s m args below meth c T locs cells slots) (hx : p.tables.exec = Jvm.exec) (hby : c.code = B) {v : UInt64} (hv : FP.dconst0 = v) (hd : decode B pc = .ok (.dconst 0, 1)) (hp : pc + 1 = pc') (k : Gt p.tables e below F (T.setTop (mkF m pc' L (.double v :: rest)))) : Gt p.tables e below F (T.setTop (mkF m pc L rest)) := by
  subst hp; exact k.go fun t q => XS.dconst0 X.here hx rfl (hb hby hd) hv q
theorem own_dconst1 (X : Stand p l e R s m args below meth c T locs cells slots) (hx : p.tables.exec = Jvm.exec) (hby : c.code = B) {v : UInt64} (hv : FP.dconst1 = v) (hd : decode B pc = .ok (.dconst 1, 1)) (hp : pc + 1 = pc') (k : Gt p.tables e below F (T.setTop (mkF m pc' L (.double v :: rest)))) : Gt p.tables e below F (T.setTop (mkF m pc L rest)) := by
  subst hp; exact k.go fun t q => XS.dconst1 X.here hx rfl (hb hby hd) hv q
theorem own_dadd (X : Stand p l e R s m args below meth c T locs cells slots) (hx : p.tables.exec = Jvm.exec) (hby : c.code = B) {x y v : UInt64} (hn : NoNaN64 (FP.dadd x y)) (hv : FP.dadd x y = v) (hd : decode B pc = .ok (.dadd, 1)) (hp : pc + 1 = pc') (k : Gt p.tables e below F (T.setTop (mkF m pc' L (.double v :: rest)))) : Gt p.tables e below F (T.setTop (mkF m pc L (.double y :: .double x :: rest))) := by
  subst hp; exact k.go fun t q => XS.daddS X.here hx rfl (hb hby hd) rfl hn hv q
theorem own_dsub (X : Stand p l e R s m args below meth c T locs cells slots) (hx : p.tables.exec = Jvm.exec) (hby : c.code = B) {x y v : UInt64} (hn : NoNaN64 (FP.dsub x y)) (hv : FP.dsub x y = v) (hd : decode B pc = .ok (.dsub, 1)) (hp : pc + 1 = pc') (k : Gt p.tables e below F (T.setTop (mkF m pc' L (.double v :: rest)))) : Gt p.tables e below F (T.setTop (mkF m pc L (.double y :: .double x :: rest))) := by
  subst hp; exact k.go fun t q => XS.dsubS X.here hx rfl (hb hby hd) rfl hn hv q
theorem own_dmul (X : Stand p l e R s m args below meth c T locs cells slots) (hx : p.tables.exec = Jvm.exec) (hby : c.code = B) {x y v : UInt64} (hn : NoNaN64 (FP.dmul x y)) (hv : FP.dmul x y = v) (hd : decode B pc = .ok (.dmul, 1)) (hp : pc + 1 = pc') (k : Gt p.tables e below F (T.setTop (mkF m pc' L (.double v :: rest)))) : Gt p.tables e below F (T.setTop (mkF m pc L (.double y :: .double x :: rest))) := by
  subst hp; exact k.go fun t q => XS.dmulS X.here hx rfl (hb hby hd) rfl hn hv q
theorem own_ddiv (X : Stand p l e R s m args below meth c T locs cells slots) (hx : p.tables.exec = Jvm.exec) (hby : c.code = B) {x y v : UInt64} (hn : NoNaN64 (FP.ddiv x y)) (hv : FP.ddiv x y = v) (hd : decode B pc = .ok (.ddiv, 1)) (hp : pc + 1 = pc') (k : Gt p.tables e below F (T.setTop (mkF m pc' L (.double v :: rest)))) : Gt p.tables e below F (T.setTop (mkF m pc L (.double y :: .double x :: rest))) := by
  subst hp; exact k.go fun t q => XS.ddivS X.here hx rfl (hb hby hd) rfl hn hv q
theorem own_dneg (X : Stand p l e R s m args below meth c T locs cells slots) (hx : p.tables.exec = Jvm.exec) (hby : c.code = B) {x v : UInt64} (hv : FP.dneg x = v) (hd : decode B pc = .ok (.dneg, 1)) (hp : pc + 1 = pc') (k : Gt p.tables e below F (T.setTop (mkF m pc' L (.double v :: rest)))) : Gt p.tables e below F (T.setTop (mkF m pc L (.double x :: rest))) := by
  subst hp; exact k.go fun t q => XS.dnegS X.here hx rfl (hb hby hd) rfl hv q
theorem own_dcmp (X : Stand p l e R s m args below meth c T locs cells slots) (hx : p.tables.exec = Jvm.exec) (hby : c.code = B) {o : CmpOp} {x y : UInt64} {v : Int32} (hv : cmpValue (FP.dcmp x y) o = v) (hd : decode B pc = .ok (.dcmp o, 1)) (hp : pc + 1 = pc') (k : Gt p.tables e below F (T.setTop (mkF m pc' L (.int v :: rest)))) : Gt p.tables e below F (T.setTop (mkF m pc L (.double y :: .double x :: rest))) := by
  subst hp; exact k.go fun t q => XS.dcmpS X.here hx rfl (hb hby hd) rfl hv q
theorem own_i2d (X : Stand p l e R s m args below meth c T locs cells slots) (hx : p.tables.exec = Jvm.exec) (hby : c.code = B) {x : Int32} {v : UInt64} (hv : FP.i2d x = v) (hd : decode B pc = .ok (.i2d, 1)) (hp : pc + 1 = pc') (k : Gt p.tables e below F (T.setTop (mkF m pc' L (.double v :: rest)))) : Gt p.tables e below F (T.setTop (mkF m pc L (.int x :: rest))) := by
  subst hp; exact k.go fun t q => XS.i2dS X.here hx rfl (hb hby hd) rfl hv q
theorem own_l2d (X : Stand p l e R s m args below meth c T locs cells slots) (hx : p.tables.exec = Jvm.exec) (hby : c.code = B) {x : Int64} {v : UInt64} (hv : FP.l2d x = v) (hd : decode B pc = .ok (.l2d, 1)) (hp : pc + 1 = pc') (k : Gt p.tables e below F (T.setTop (mkF m pc' L (.double v :: rest)))) : Gt p.tables e below F (T.setTop (mkF m pc L (.long x :: rest))) := by
  subst hp; exact k.go fun t q => XS.l2dS X.here hx rfl (hb hby hd) rfl hv q
theorem own_dup (X : Stand p l e R s m args below meth c T locs cells slots) (hx : p.tables.exec = Jvm.exec) (hby : c.code = B) {x : Value} (hc : x.category = 1) (hd : decode B pc = .ok (.dup, 1)) (hp : pc + 1 = pc') (k : Gt p.tables e below F (T.setTop (mkF m pc' L (x :: x :: rest)))) : Gt p.tables e below F (T.setTop (mkF m pc L (x :: rest))) := by
  subst hp; exact k.go fun t q => XS.dup X.here hx rfl (hb hby hd) rfl hc q
theorem own_pop (X : Stand p l e R s m args below meth c T locs cells slots) (hx : p.tables.exec = Jvm.exec) (hby : c.code = B) {x : Value} (hc : x.category = 1) (hd : decode B pc = .ok (.pop, 1)) (hp : pc + 1 = pc') (k : Gt p.tables e below F (T.setTop (mkF m pc' L rest))) : Gt p.tables e below F (T.setTop (mkF m pc L (x :: rest))) := by
  subst hp; exact k.go fun t q => XS.pop X.here hx rfl (hb hby hd) rfl hc q
theorem own_dupX1 (X : Stand p l e R s m args below meth c T locs cells slots) (hx : p.tables.exec = Jvm.exec) (hby : c.code = B) {x y : Value} (hc : x.category = 1) (hc' : y.category = 1) (hd : decode B pc = .ok (.dup_x1, 1)) (hp : pc + 1 = pc') (k : Gt p.tables e below F (T.setTop (mkF m pc' L (x :: y :: x :: rest)))) : Gt p.tables e below F (T.setTop (mkF m pc L (x :: y :: rest))) := by
  subst hp; exact k.go fun t q => XS.dupX1 X.here hx rfl (hb hby hd) rfl hc hc' q
theorem own_dup2 (X : Stand p l e R s m args below meth c T locs cells slots) (hx : p.tables.exec = Jvm.exec) (hby : c.code = B) {x y : Value} (hc : x.category = 1) (hc' : y.category = 1) (hd : decode B pc = .ok (.dup2, 1)) (hp : pc + 1 = pc') (k : Gt p.tables e below F (T.setTop (mkF m pc' L (x :: y :: x :: y :: rest)))) : Gt p.tables e below F (T.setTop (mkF m pc L (x :: y :: rest))) := by
  subst hp; exact k.go fun t q => Jvm.Free.XT.dup2 X.here hx rfl (hb hby hd) rfl hc hc' q
theorem own_goto (X : Stand p l e R s m args below meth c T locs cells slots) (hx : p.tables.exec = Jvm.exec) (hby : c.code = B) {o : Int} (hd : decode B pc = .ok (.goto o, 3)) (ho : 0 ≤ (pc : Int) + o) (hp : ((pc : Int) + o).toNat = pc') (k : Gt p.tables e below F (T.setTop (mkF m pc' L rest))) : Gt p.tables e below F (T.setTop (mkF m pc L rest)) :=
  k.go fun t q => XS.goto X.here hx rfl rfl (hb hby hd) ho hp q
theorem own_ifT (X : Stand p l e R s m args below meth c T locs cells slots) (hx : p.tables.exec = Jvm.exec) (hby : c.code = B) {cd : ClassFile.Cond} {x : Int32} {o : Int} (hd : decode B pc = .ok (.ifCond cd o, 3)) (hc : ifCond.holds cd x = true) (ho : 0 ≤ (pc : Int) + o) (hp : ((pc : Int) + o).toNat = pc') (k : Gt p.tables e below F (T.setTop (mkF m pc' L rest))) : Gt p.tables e below F (T.setTop (mkF m pc L (.int x :: rest))) :=
  k.go fun t q => XS.ifYes X.here hx rfl rfl (hb hby hd) rfl hc ho hp q
theorem own_ifF (X : Stand p l e R s m args below meth c T locs cells slots) (hx : p.tables.exec = Jvm.exec) (hby : c.code = B) {cd : ClassFile.Cond} {x : Int32} {o : Int} (hd : decode B pc = .ok (.ifCond cd o, 3)) (hc : ifCond.holds cd x = false) (hp : pc + 3 = pc') (k : Gt p.tables e below F (T.setTop (mkF m pc' L rest))) : Gt p.tables e below F (T.setTop (mkF m pc L (.int x :: rest))) := by
  subst hp; exact k.go fun t q => XS.ifNo X.here hx rfl (hb hby hd) rfl hc q
theorem own_icT (X : Stand p l e R s m args below meth c T locs cells slots) (hx : p.tables.exec = Jvm.exec) (hby : c.code = B) {cd : ClassFile.Cond} {x y : Int32} {o : Int} (hd : decode B pc = .ok (.if_icmp cd o, 3)) (hc : if_icmp.holds cd x y = true) (ho : 0 ≤ (pc : Int) + o) (hp : ((pc : Int) + o).toNat = pc') (k : Gt p.tables e below F (T.setTop (mkF m pc' L rest))) : Gt p.tables e below F (T.setTop (mkF m pc L (.int y :: .int x :: rest))) :=
  k.go fun t q => XS.icmpYes X.here hx rfl rfl (hb hby hd) rfl hc ho hp q
theorem own_icF (X : Stand p l e R s m args below meth c T locs cells slots) (hx : p.tables.exec = Jvm.exec) (hby : c.code = B) {cd : ClassFile.Cond} {x y : Int32} {o : Int} (hd : decode B pc = .ok (.if_icmp cd o, 3)) (hc : if_icmp.holds cd x y = false) (hp : pc + 3 = pc') (k : Gt p.tables e below F (T.setTop (mkF m pc' L rest))) : Gt p.tables e below F (T.setTop (mkF m pc L (.int y :: .int x :: rest))) := by
  subst hp; exact k.go fun t q => XS.icmpNo X.here hx rfl (hb hby hd) rfl hc q
theorem own_ifnullT (X : Stand p l e R s m args below meth c T locs cells slots) (hx : p.tables.exec = Jvm.exec) (hby : c.code = B) {o : Int} (hd : decode B pc = .ok (.ifnull o, 3)) (ho : 0 ≤ (pc : Int) + o) (hp : ((pc : Int) + o).toNat = pc') (k : Gt p.tables e below F (T.setTop (mkF m pc' L rest))) : Gt p.tables e below F (T.setTop (mkF m pc L (.null :: rest))) :=
  k.go fun t q => XS.ifnullYes X.here hx rfl rfl (hb hby hd) rfl ho hp q
theorem own_ifnullF (X : Stand p l e R s m args below meth c T locs cells slots) (hx : p.tables.exec = Jvm.exec) (hby : c.code = B) {o : Int} {b : Addr} (hd : decode B pc = .ok (.ifnull o, 3)) (hp : pc + 3 = pc') (k : Gt p.tables e below F (T.setTop (mkF m pc' L rest))) : Gt p.tables e below F (T.setTop (mkF m pc L (.ref b :: rest))) := by
  subst hp; exact k.go fun t q => XS.ifnullNo X.here hx rfl (hb hby hd) rfl q
theorem own_ifnonnullT (X : Stand p l e R s m args below meth c T locs cells slots) (hx : p.tables.exec = Jvm.exec) (hby : c.code = B) {o : Int} {b : Addr} (hd : decode B pc = .ok (.ifnonnull o, 3)) (ho : 0 ≤ (pc : Int) + o) (hp : ((pc : Int) + o).toNat = pc') (k : Gt p.tables e below F (T.setTop (mkF m pc' L rest))) : Gt p.tables e below F (T.setTop (mkF m pc L (.ref b :: rest))) :=
  k.go fun t q => XS.ifnonnullYes X.here hx rfl rfl (hb hby hd) rfl ho hp q
theorem own_ifnonnullF (X : Stand p l e R s m args below meth c T locs cells slots) (hx : p.tables.exec = Jvm.exec) (hby : c.code = B) {o : Int} (hd : decode B pc = .ok (.ifnonnull o, 3)) (hp : pc + 3 = pc') (k : Gt p.tables e below F (T.setTop (mkF m pc' L rest))) : Gt p.tables e below F (T.setTop (mkF m pc L (.null :: rest))) := by
  subst hp; exact k.go fun t q => XS.ifnonnullNo X.here hx rfl (hb hby hd) rfl q
theorem own_acmp (X : Stand p l e R s m args below meth c T locs cells slots) (hx : p.tables.exec = Jvm.exec) (hby : c.code = B) {cd : ACond} {x y : Value} (h1 : x.isRef = true) (h2 : y.isRef = true) {o : Int} {same : Bool} (hd : decode B pc = .ok (.if_acmp cd o, 3)) (hq : decide (x = y) = same) (ho : 0 ≤ (pc : Int) + o) (hp : pc' = if acV cd same = true then ((pc : Int) + o).toNat else pc + 3) (k : Gt p.tables e below F (T.setTop (mkF m pc' L rest))) : Gt p.tables e below F (T.setTop (mkF m pc L (y :: x :: rest))) :=
  k.go fun t q => Jvm.RoadKit.acmp X hx rfl h1 h2 rfl (hb hby hd) rfl hq ho hp q
theorem own_ldcI (X : Stand p l e R s m args below meth c T locs cells slots) (hx : p.tables.exec = Jvm.exec) (hby : c.code = B) (hZ : Z.Warmed39 s.vm) {own : String} {i : Nat} {v : Int32} (hown : s.vm.findClass own = some m.cls) (w : (Jvm.Cond.constant own i v).before a0 Z = true) (hd : decode B pc = .ok (.ldc i, 2)) (hp : pc + 2 = pc') (k : Gt p.tables e below F (T.setTop (mkF m pc' L (.int v :: rest)))) : Gt p.tables e below F (T.setTop (mkF m pc L rest)) := by
  subst hp; exact k.go (X.ldcInt hx hown (mvT hZ w) (g := mkF m pc L rest) rfl (hb hby hd))
theorem own_ldc2L (X : Stand p l e R s m args below meth c T locs cells slots) (hx : p.tables.exec = Jvm.exec) (hby : c.code = B) (hZ : Z.Warmed39 s.vm) {own : String} {i : Nat} {v : Int64} (hown : s.vm.findClass own = some m.cls) (w : (Jvm.Cond.constantLong own i v).before a0 Z = true) (hd : decode B pc = .ok (.ldc2_w i, 3)) (hp : pc + 3 = pc') (k : Gt p.tables e below F (T.setTop (mkF m pc' L (.long v :: rest)))) : Gt p.tables e below F (T.setTop (mkF m pc L rest)) := by
  subst hp; exact k.go (X.ldc2Long hx hown (mvT hZ w) (g := mkF m pc L rest) rfl (hb hby hd))
theorem own_ldc2D (X : Stand p l e R s m args below meth c T locs cells slots) (hx : p.tables.exec = Jvm.exec) (hby : c.code = B) (hZ : Z.Warmed39 s.vm) {own : String} {i : Nat} {v : UInt64} (hown : s.vm.findClass own = some m.cls) (w : (Jvm.Cond.constantDouble own i v).before a0 Z = true) (hd : decode B pc = .ok (.ldc2_w i, 3)) (hp : pc + 3 = pc') (k : Gt p.tables e below F (T.setTop (mkF m pc' L (.double v :: rest)))) : Gt p.tables e below F (T.setTop (mkF m pc L rest)) := by
  subst hp; exact k.go (X.ldc2DoubleC hx hown (mvT hZ w) (g := mkF m pc L rest) rfl (hb hby hd))
theorem own_getF (X : Stand p l e R s m args below meth c T locs cells slots) (hx : p.tables.exec = Jvm.exec) (hby : c.code = B) (hZ : Z.Warmed39 s.vm) {own R0 O n d host : String} {index : Nat} (hown : s.vm.findClass own = some m.cls) (w : (Jvm.Cond.fieldLink own index R0 n d).before a0 Z = true ∨ (Jvm.Cond.fieldLinkNest own index R0 n d host).before a0 Z = true) (via : Via Z R0 O n d) (eT : T.heap = h) {a : Addr} {v : Value} (Ff : Fld Z h a O n d v) (hd : decode B pc = .ok (.getfield index, 3)) (hp : pc + 3 = pc') (k : ∀ T', Stand p l e R s m args below meth c T' locs cells slots → T'.heap = h → Gt p.tables e below F (T'.setTop (mkF m pc' L (v :: rest)))) : Gt p.tables e below F (T.setTop (mkF m pc L (.ref a :: rest))) := by
  subst hp; obtain ⟨T', X', e', st⟩ := getF X hx hZ hown w via eT Ff (g := mkF m pc L (.ref a :: rest)) rfl rfl (hb hby hd); exact (k T' X' e').go st
theorem own_getS (X : Stand p l e R s m args below meth c T locs cells slots) (hx : p.tables.exec = Jvm.exec) (hby : c.code = B) (hZ : Z.Warmed39 s.vm) {own R0 O n d host : String} {index : Nat} (hown : s.vm.findClass own = some m.cls) (w : (Jvm.Cond.fieldLink own index R0 n d).before a0 Z = true ∨ (Jvm.Cond.fieldLinkNest own index R0 n d host).before a0 Z = true) (via : Via Z R0 O n d) (eT : T.heap = h) {v : Value} (Ff : Sta Z h O n d v) (hd : decode B pc = .ok (.getstatic index, 3)) (hp : pc + 3 = pc') (k : ∀ T', Stand p l e R s m args below meth c T' locs cells slots → T'.heap = h → Gt p.tables e below F (T'.setTop (mkF m pc' L (v :: rest)))) : Gt p.tables e below F (T.setTop (mkF m pc L rest)) := by
  subst hp; obtain ⟨T', X', e', st⟩ := getS2 X hx hZ hown w via eT Ff (g := mkF m pc L rest) rfl (hb hby hd); exact (k T' X' e').go st
theorem own_putF (X : Stand p l e R s m args below meth c T locs cells slots) (hx : p.tables.exec = Jvm.exec) (hby : c.code = B) (hZ : Z.Warmed39 s.vm) {own R0 O n d host C : String} {index kk : Nat} {ty : FieldType} (hown : s.vm.findClass own = some m.cls) (w : (Jvm.Cond.fieldLink own index R0 n d).before a0 Z = true ∨ (Jvm.Cond.fieldLinkNest own index R0 n d host).before a0 Z = true) (via : Via Z R0 O n d) (eT : T.heap = h) {a : Addr} {v old : Value} (Ff : Fld Z h a O n d old) (E : Exa Z h a C) (La : (Jvm.Cond.lays C O n d).before a0 Z = true ∨ ((Jvm.Cond.laysFinal C O n d).before a0 Z = true ∧ own = O ∧ meth.name = "<init>")) (wi : (Jvm.Cond.instantiable C kk).before a0 Z = true) (hty : parseFieldDescriptor d = some ty) (hn : narrow ty v = v) (hf : fits ty v = true) (hd : decode B pc = .ok (.putfield index, 3)) (hp : pc + 3 = pc') (k : ∀ T' h', Stand p l e R s m args below meth c T' (locs ++ [⟨a, Jvm.RoadKit.slotOf Z O n d⟩]) cells slots → T'.heap = h' → Wr h h' a (Jvm.RoadKit.slotOf Z O n d) v → Gt p.tables e below F (T'.setTop (mkF m pc' L rest))) : Gt p.tables e below F (T.setTop (mkF m pc L (v :: .ref a :: rest))) := by
  subst hp; obtain ⟨T', h', X', e', W, st⟩ := putF X hx hZ hown w via eT Ff E La wi hty hn hf (g := mkF m pc L (v :: .ref a :: rest)) rfl rfl (hb hby hd); exact (k T' h' X' e' W).go st
theorem own_newO (X : Stand p l e R s m args below meth c T locs cells slots) (hx : p.tables.exec = Jvm.exec) (hby : c.code = B) (hZ : Z.Warmed39 s.vm) {own C : String} {index n : Nat} (hown : s.vm.findClass own = some m.cls) (w : (Jvm.Cond.classLink own index C).before a0 Z = true) (wi : (Jvm.Cond.instantiable C n).before a0 Z = true) (wz : (Jvm.Cond.initialized C).before a0 Z = true) (eT : T.heap = h) (hd : decode B pc = .ok (.new index, 3)) (hp : pc + 3 = pc') (hc : cells + 1 ≤ R.cells) (hl : slots + n ≤ R.slots) (k : ∀ T' h' a, Stand p l e R s m args below meth c T' locs (cells + 1) (slots + n) → T'.heap = h' → Ext h h' → h.size = a → Exa Z h' a C → (∀ {O nm d : String} {ty : FieldType}, Laid Z a0 C O nm d → parseFieldDescriptor d = some ty → Fld Z h' a O nm d (defaultValue ty)) → Gt p.tables e below F (T'.setTop (mkF m pc' L (.ref a :: rest)))) : Gt p.tables e below F (T.setTop (mkF m pc L rest)) := by
  subst hp; obtain ⟨T', h', X', e', E', A', D', -, st⟩ := newO X hx hZ hown w wi wz eT (g := mkF m pc L rest) rfl (hb hby hd) hc hl; exact (k T' h' _ X' e' E' rfl A' D').go st
theorem own_initO (X : Stand p l e R s m args below meth c T locs cells slots) (hx : p.tables.exec = Jvm.exec) (hby : c.code = B) (hZ : Z.Warmed39 s.vm) {own : String} {idx : Nat} (hown : s.vm.findClass own = some m.cls) (w1 : (Jvm.Cond.methodLink own idx Lib.objectInit).before a0 Z = true) (w2 : (Jvm.Cond.instanceMethod Lib.objectInit).before a0 Z = true) (w3 : (Jvm.Cond.code Lib.objectInit ⟨#[0xb1]⟩ 1 none).before a0 Z = true) (eT : T.heap = h) (hsize : L.size = c.maxLocals) {a : Addr} (hd : decode B pc = .ok (.invokespecial idx, 3)) (hp : pc + 3 = pc') (hf : 1 ≤ R.frames) {W : Nat} (hW : (rest.map fun v => v.category).sum ≤ W) (hl : W + 12 ≤ R.locals) (k : ∀ T', Stand p l e R s m args below meth c T' locs cells slots → T'.heap = h → Gt p.tables e below F (T'.setTop (mkF m pc' L rest))) : Gt p.tables e below F (T.setTop (mkF m pc L (.ref a :: rest))) := by
  subst hp; obtain ⟨T', X', e', st⟩ := initO X hx hZ hown w1 w2 w3 eT (g := mkF m pc L (.ref a :: rest)) rfl hsize rfl (hb hby hd) hf (W := W) (by show 2 * 0 + _ ≤ _; rw [Nat.mul_zero, Nat.zero_add]; exact hW) hl; exact (k T' X' e').go st
theorem own_special (X : Stand p l e R s m args below meth c T locs cells slots) (hx : p.tables.exec = Jvm.exec) (hby : c.code = B) (hZ : Z.Warmed39 s.vm) {own : String} {index : Nat} {y : MethodName} {bytes : ByteArray} {maxL : Nat} {ret : Option FieldType} {rm : Room} {as' : Array Value} {Q : Option Value → Heap → List Loc → Prop} (hy1 : y.name = "<init>") (hown : s.vm.findClass own = some m.cls) (w1 : (Jvm.Cond.methodLink own index y).before a0 Z = true) (w2 : (Jvm.Cond.instanceMethod y).before a0 Z = true) (hret : ret = none) (w3 : (Jvm.Cond.code y bytes maxL ret).before a0 Z = true) (w4 : (Jvm.Cond.initialized y.cls).before a0 Z = true) (hy : y.cls ≠ "java/lang/invoke/MethodHandle" ∧ y.cls ≠ "java/lang/invoke/VarHandle") (hM : MetFree l y (head1 [Jvm.Cond.code y bytes maxL ret] rm) (fun a U => a = as' ∧ Z.Warmed39 U.vm ∧ U.heap = h) (fun _ _ _ _ _ => True) (fun _ U o U' => ∃ v L, o = .returned v ∧ Q v U'.heap L ∧ FrameEnd U o U' L rm.cells rm.slots)) (eT : T.heap = h) (hsize : L.size = c.maxLocals) {a : Addr} {argsL : List Value} (has : as' = (.ref a :: argsL).toArray) (hlen : ∀ sig, parseMethodDescriptor y.desc = some sig → argsL.length = sig.parameters.length) {st : List Value} (hst : st = argsL.reverse ++ .ref a :: rest) (hd : decode B pc = .ok (.invokespecial index, 3)) (hp : pc + 3 = pc') (hf : rm.frames + 1 ≤ R.frames) {W : Nat} (hW : (rest.map fun v => v.category).sum ≤ W) (hl : W + (maxL + 11) + rm.locals ≤ R.locals) (hc : cells + rm.cells ≤ R.cells) (hs : slots + rm.slots ≤ R.slots) (k : ∀ T' h' L' v, Stand p l e R s m args below meth c T' (locs ++ L') (cells + rm.cells) (slots + rm.slots) → T'.heap = h' → Q v h' L' → Gt p.tables e below F (T'.setTop (mkF m pc' L (v.toList ++ rest)))) : Gt p.tables e below F (T.setTop (mkF m pc L st)) := by
  subst hp hret has hst
  obtain ⟨v, vm1, ⟨T', L1, k1, n1⟩, -, X', ⟨Lc, hQ, l1, l2, l3⟩, st⟩ := X.specialBack hx (y := y) hy1 hown (mvT hZ w1) (mvT hZ w2) (mvT hZ w3) hy (backOf (W := W) hM hZ w3 w4 hf hl) (g := mkF m pc L (argsL.reverse ++ .ref a :: rest)) rfl hsize (Steps.refl _) (a := a) (argsL := argsL) (rest := rest) hlen rfl (by show 2 * 0 + _ ≤ _; rw [Nat.mul_zero, Nat.zero_add]; exact hW) (hb hby hd) (fun _ _ => ⟨rfl, eT, hc, hs⟩)
  dsimp only [Pt.U, Pt.locs, Pt.cells, Pt.slots] at X' l1 l2 l3 st hQ
  subst l1 l2 l3
  exact (k T' _ Lc v X' rfl hQ).go fun t q => st.trans q
theorem own_virtual (X : Stand p l e R s m args below meth c T locs cells slots) (hx : p.tables.exec = Jvm.exec) (hby : c.code = B) (hZ : Z.Warmed39 s.vm) {own : String} {index : Nat} {y : MethodName} {bytes : ByteArray} {maxL : Nat} {ret : Option FieldType} {rm : Room} {as' : Array Value} {Q : Option Value → Heap → List Loc → Prop} {C : String} {y' : MethodName} (hown : s.vm.findClass own = some m.cls) (w1 : (Jvm.Cond.methodLink own index y').before a0 Z = true) (w2 : (Jvm.Cond.declares y').before a0 Z = true) (hnf : NotFace s y') (w5 : (Jvm.Cond.selects C y' y).before a0 Z = true) (w6 : (Jvm.Cond.instanceMethod y).before a0 Z = true) (w3 : (Jvm.Cond.code y bytes maxL ret).before a0 Z = true) (w4 : (Jvm.Cond.initialized y.cls).before a0 Z = true) (hy : y'.cls ≠ "java/lang/invoke/MethodHandle" ∧ y'.cls ≠ "java/lang/invoke/VarHandle") (hM : MetFree l y (head1 [Jvm.Cond.code y bytes maxL ret] rm) (fun a U => a = as' ∧ Z.Warmed39 U.vm ∧ U.heap = h) (fun _ _ _ _ _ => True) (fun _ U o U' => ∃ v L, o = .returned v ∧ Q v U'.heap L ∧ FrameEnd U o U' L rm.cells rm.slots)) (eT : T.heap = h) (hsize : L.size = c.maxLocals) {a : Addr} (E : Exa Z h a C) {argsL : List Value} (has : as' = (.ref a :: argsL).toArray) (hlen : ∀ sig, parseMethodDescriptor y'.desc = some sig → argsL.length = sig.parameters.length) {st : List Value} (hst : st = argsL.reverse ++ .ref a :: rest) (hd : decode B pc = .ok (.invokevirtual index, 3)) (hp : pc + 3 = pc') (hf : rm.frames + 1 ≤ R.frames) {W : Nat} (hW : (rest.map fun v => v.category).sum ≤ W) (hl : W + (maxL + 11) + rm.locals ≤ R.locals) (hc : cells + rm.cells ≤ R.cells) (hs : slots + rm.slots ≤ R.slots) (k : ∀ T' h' L' v, Stand p l e R s m args below meth c T' (locs ++ L') (cells + rm.cells) (slots + rm.slots) → T'.heap = h' → Q v h' L' → Gt p.tables e below F (T'.setTop (mkF m pc' L (v.toList ++ rest)))) : Gt p.tables e below F (T.setTop (mkF m pc L st)) := by
  subst hp has hst
  obtain ⟨cq, kq, qa, qb, qc⟩ := isOf hZ eT E
  obtain ⟨v, vm1, ⟨T', L1, k1, n1⟩, -, X', ⟨Lc, hQ, l1, l2, l3⟩, st⟩ := X.virtualBack hx (y := y') (z := y) hown (mvT hZ w1) (mvT hZ w2) hnf (mvT hZ w5) (mvT hZ w6) hy (backOf (W := W) hM hZ w3 w4 hf hl) qa qc (g := mkF m pc L (argsL.reverse ++ .ref a :: rest)) rfl hsize (Steps.refl _) (argsL := argsL) (rest := rest) hlen rfl (by show 2 * 0 + _ ≤ _; rw [Nat.mul_zero, Nat.zero_add]; exact hW) (hb hby hd) (fun _ _ => ⟨rfl, eT, hc, hs⟩)
  dsimp only [Pt.U, Pt.locs, Pt.cells, Pt.slots] at X' l1 l2 l3 st hQ
  subst l1 l2 l3
  exact (k T' _ Lc v X' rfl hQ).go fun t q => st.trans q
theorem own_static (X : Stand p l e R s m args below meth c T locs cells slots) (hx : p.tables.exec = Jvm.exec) (hby : c.code = B) (hZ : Z.Warmed39 s.vm) {own : String} {index : Nat} {y : MethodName} {bytes : ByteArray} {maxL : Nat} {ret : Option FieldType} {rm : Room} {as' : Array Value} {Q : Option Value → Heap → List Loc → Prop} (hown : s.vm.findClass own = some m.cls) (w1 : (Jvm.Cond.methodLink own index y).before a0 Z = true) (w2 : (Jvm.Cond.static y).before a0 Z = true) (w3 : (Jvm.Cond.code y bytes maxL ret).before a0 Z = true) (w4 : (Jvm.Cond.initialized y.cls).before a0 Z = true) (hy : y.cls ≠ "java/lang/invoke/MethodHandle" ∧ y.cls ≠ "java/lang/invoke/VarHandle") (hM : MetFree l y (head1 [Jvm.Cond.code y bytes maxL ret] rm) (fun a U => a = as' ∧ Z.Warmed39 U.vm ∧ U.heap = h) (fun _ _ _ _ _ => True) (fun _ U o U' => ∃ v L, o = .returned v ∧ Q v U'.heap L ∧ FrameEnd U o U' L rm.cells rm.slots)) (eT : T.heap = h) (hsize : L.size = c.maxLocals) {argsL : List Value} (has : as' = argsL.toArray) (hlen : ∀ sig, parseMethodDescriptor y.desc = some sig → argsL.length = sig.parameters.length) {st : List Value} (hst : st = argsL.reverse ++ rest) (hd : decode B pc = .ok (.invokestatic index, 3)) (hp : pc + 3 = pc') (hf : rm.frames + 1 ≤ R.frames) {W : Nat} (hW : (rest.map fun v => v.category).sum ≤ W) (hl : W + (maxL + 11) + rm.locals ≤ R.locals) (hc : cells + rm.cells ≤ R.cells) (hs : slots + rm.slots ≤ R.slots) (k : ∀ T' h' L' v, Stand p l e R s m args below meth c T' (locs ++ L') (cells + rm.cells) (slots + rm.slots) → T'.heap = h' → Q v h' L' → Gt p.tables e below F (T'.setTop (mkF m pc' L (v.toList ++ rest)))) : Gt p.tables e below F (T.setTop (mkF m pc L st)) := by
  subst hp has hst
  obtain ⟨v, vm1, ⟨T', L1, k1, n1⟩, -, X', ⟨Lc, hQ, l1, l2, l3⟩, st⟩ := Jvm.LawKit.callS X hx (y := y) hown (mvT hZ w1) (mvT hZ w2) (mvT hZ w4) (mvT hZ w3) hy (backOf (W := W) hM hZ w3 w4 hf hl) (g := mkF m pc L (argsL.reverse ++ rest)) rfl hsize (argsL := argsL) (rest := rest) hlen rfl (by show 2 * 0 + _ ≤ _; rw [Nat.mul_zero, Nat.zero_add]; exact hW) (hb hby hd) (fun _ _ => ⟨rfl, eT, hc, hs⟩)
  dsimp only [Pt.U, Pt.locs, Pt.cells, Pt.slots] at X' l1 l2 l3 st hQ
  subst l1 l2 l3
  exact (k T' _ Lc v X' rfl hQ).go fun t q => st _ q
theorem own_private (X : Stand p l e R s m args below meth c T locs cells slots) (hx : p.tables.exec = Jvm.exec) (hby : c.code = B) (hZ : Z.Warmed39 s.vm) {own : String} {index : Nat} {y : MethodName} {bytes : ByteArray} {maxL : Nat} {ret : Option FieldType} {rm : Room} {as' : Array Value} {Q : Option Value → Heap → List Loc → Prop} (hown : s.vm.findClass own = some m.cls) (w1 : (Jvm.Cond.methodLink own index y).before a0 Z = true) (w2 : (Jvm.Cond.instanceMethod y).before a0 Z = true) {ni : Nat} (w5 : (Jvm.Cond.instantiable y.cls ni).before a0 Z = true) (w6 : (Jvm.Cond.privateMethod y).before a0 Z = true) (w3 : (Jvm.Cond.code y bytes maxL ret).before a0 Z = true) (w4 : (Jvm.Cond.initialized y.cls).before a0 Z = true) (hy : y.cls ≠ "java/lang/invoke/MethodHandle" ∧ y.cls ≠ "java/lang/invoke/VarHandle") (hM : MetFree l y (head1 [Jvm.Cond.code y bytes maxL ret] rm) (fun a U => a = as' ∧ Z.Warmed39 U.vm ∧ U.heap = h) (fun _ _ _ _ _ => True) (fun _ U o U' => ∃ v L, o = .returned v ∧ Q v U'.heap L ∧ FrameEnd U o U' L rm.cells rm.slots)) (eT : T.heap = h) (hsize : L.size = c.maxLocals) {a : Addr} (E : Exa Z h a y.cls) {argsL : List Value} (has : as' = (.ref a :: argsL).toArray) (hlen : ∀ sig, parseMethodDescriptor y.desc = some sig → argsL.length = sig.parameters.length) {st : List Value} (hst : st = argsL.reverse ++ .ref a :: rest) (hd : decode B pc = .ok (.invokevirtual index, 3)) (hp : pc + 3 = pc') (hf : rm.frames + 1 ≤ R.frames) {W : Nat} (hW : (rest.map fun v => v.category).sum ≤ W) (hl : W + (maxL + 11) + rm.locals ≤ R.locals) (hc : cells + rm.cells ≤ R.cells) (hs : slots + rm.slots ≤ R.slots) (k : ∀ T' h' L' v, Stand p l e R s m args below meth c T' (locs ++ L') (cells + rm.cells) (slots + rm.slots) → T'.heap = h' → Q v h' L' → Gt p.tables e below F (T'.setTop (mkF m pc' L (v.toList ++ rest)))) : Gt p.tables e below F (T.setTop (mkF m pc L st)) := by
  subst hp has hst
  obtain ⟨cq, q1, q2⟩ := E.cell
  obtain ⟨cI, kI, i1, i2, -, i3, -⟩ := Cond.instantiable_spec (mv (s := s) (args := args) hZ w5)
  have hpr := Cond.privateMethod_at (mvP (s := s) hZ w6 (args := #[]))
  have hsel := Jvm.Stand.selects_self_of_private i1 i2 (Bool.or_eq_false_iff.mp i3).1 hpr (mvT (s := s) (args := args) hZ w2) hy
  obtain ⟨v, vm1, ⟨T', L1, k1, n1⟩, -, X', ⟨Lc, hQ, l1, l2, l3⟩, st⟩ := X.privateBack hx (y := y) hown (mvT hZ w1) (mvT hZ w2) hsel hpr (mvT hZ w3) hy (backOf (W := W) hM hZ w3 w4 hf hl) (g := mkF m pc L (argsL.reverse ++ .ref a :: rest)) rfl hsize (Steps.refl _) (a := a) (by rw [eT]; exact q1) q2 (argsL := argsL) (rest := rest) hlen rfl (by show 2 * 0 + _ ≤ _; rw [Nat.mul_zero, Nat.zero_add]; exact hW) (hb hby hd) (fun _ _ => ⟨rfl, eT, hc, hs⟩)
  dsimp only [Pt.U, Pt.locs, Pt.cells, Pt.slots] at X' l1 l2 l3 st hQ
  subst l1 l2 l3
  exact (k T' _ Lc v X' rfl hQ).go fun t q => st.trans q
theorem own_retV (X : Stand p l e R s m args below meth c T locs cells slots) (hx : p.tables.exec = Jvm.exec) (hby : c.code = B) (hlocks : meth.locks = false) {Q : Option Value → Heap → List Loc → Prop} {kc ks : Nat} (hret : meth.sig.returnType = none) (hd : decode B pc = .ok (.return_, 1)) (hc : cells ≤ kc) (hs : slots ≤ ks) (eT : T.heap = h) (hq : Q none h locs) : Gt p.tables e below (fun o U' => ∃ v Lc, o = .returned v ∧ Q v U'.heap Lc ∧ FrameEnd s o U' Lc kc ks) (T.setTop (mkF m pc L [])) := by
  subst eT
  obtain ⟨fs, hr, hrun, hended, hW, hsame⟩ := X.leave (v := none) (fun _ => rfl) hlocks
  exact ⟨_, _, X.returnOut hx hret (hb hby hd) hr, hrun, hended, _, _, rfl, hq, ⟨_, rfl⟩, hW, hsame.mono hc hs⟩
theorem own_retI (X : Stand p l e R s m args below meth c T locs cells slots) (hx : p.tables.exec = Jvm.exec) (hby : c.code = B) (hlocks : meth.locks = false) {Q : Option Value → Heap → List Loc → Prop} {kc ks : Nat} (hret : meth.sig.returnType = some .int) {z : Int32} (hd : decode B pc = .ok (.ireturn, 1)) (hc : cells ≤ kc) (hs : slots ≤ ks) (eT : T.heap = h) (hq : Q (some (.int z)) h locs) : Gt p.tables e below (fun o U' => ∃ v Lc, o = .returned v ∧ Q v U'.heap Lc ∧ FrameEnd s o U' Lc kc ks) (T.setTop (mkF m pc L (.int z :: rest))) := by
  subst eT
  obtain ⟨fs, hr, hrun, hended, hW, hsame⟩ := X.leave (v := (some (.int z))) (fun h => by rw [hret] at h; cases h) hlocks
  exact ⟨_, _, retOut X hx hret rfl (Or.inl ⟨rfl, Or.inl rfl, z, rfl⟩) (hb hby hd) hr, hrun, hended, _, _, rfl, hq, ⟨_, rfl⟩, hW, hsame.mono hc hs⟩
theorem own_retL (X : Stand p l e R s m args below meth c T locs cells slots) (hx : p.tables.exec = Jvm.exec) (hby : c.code = B) (hlocks : meth.locks = false) {Q : Option Value → Heap → List Loc → Prop} {kc ks : Nat} (hret : meth.sig.returnType = some .long) {z : Int64} (hd : decode B pc = .ok (.lreturn, 1)) (hc : cells ≤ kc) (hs : slots ≤ ks) (eT : T.heap = h) (hq : Q (some (.long z)) h locs) : Gt p.tables e below (fun o U' => ∃ v Lc, o = .returned v ∧ Q v U'.heap Lc ∧ FrameEnd s o U' Lc kc ks) (T.setTop (mkF m pc L (.long z :: rest))) := by
  subst eT
  obtain ⟨fs, hr, hrun, hended, hW, hsame⟩ := X.leave (v := (some (.long z))) (fun h => by rw [hret] at h; cases h) hlocks
  exact ⟨_, _, retOut X hx hret rfl (Or.inr (Or.inl ⟨rfl, rfl, z, rfl⟩)) (hb hby hd) hr, hrun, hended, _, _, rfl, hq, ⟨_, rfl⟩, hW, hsame.mono hc hs⟩
theorem own_retD (X : Stand p l e R s m args below meth c T locs cells slots) (hx : p.tables.exec = Jvm.exec) (hby : c.code = B) (hlocks : meth.locks = false) {Q : Option Value → Heap → List Loc → Prop} {kc ks : Nat} (hret : meth.sig.returnType = some .double) {z : UInt64} (hd : decode B pc = .ok (.dreturn, 1)) (hc : cells ≤ kc) (hs : slots ≤ ks) (eT : T.heap = h) (hq : Q (some (.double z)) h locs) : Gt p.tables e below (fun o U' => ∃ v Lc, o = .returned v ∧ Q v U'.heap Lc ∧ FrameEnd s o U' Lc kc ks) (T.setTop (mkF m pc L (.double z :: rest))) := by
  subst eT
  obtain ⟨fs, hr, hrun, hended, hW, hsame⟩ := X.leave (v := (some (.double z))) (fun h => by rw [hret] at h; cases h) hlocks
  exact ⟨_, _, retOut X hx hret rfl (Or.inr (Or.inr (Or.inl ⟨rfl, rfl, z, rfl⟩))) (hb hby hd) hr, hrun, hended, _, _, rfl, hq, ⟨_, rfl⟩, hW, hsame.mono hc hs⟩
theorem own_retZ (X : Stand p l e R s m args below meth c T locs cells slots) (hx : p.tables.exec = Jvm.exec) (hby : c.code = B) (hlocks : meth.locks = false) {Q : Option Value → Heap → List Loc → Prop} {kc ks : Nat} (hret : meth.sig.returnType = some .boolean) {z : Int32} (hz : z = 0 ∨ z = 1) (hd : decode B pc = .ok (.ireturn, 1)) (hc : cells ≤ kc) (hs : slots ≤ ks) (eT : T.heap = h) (hq : Q (some (.int z)) h locs) : Gt p.tables e below (fun o U' => ∃ v Lc, o = .returned v ∧ Q v U'.heap Lc ∧ FrameEnd s o U' Lc kc ks) (T.setTop (mkF m pc L (.int z :: rest))) := by
  subst eT
  obtain ⟨fs, hr, hrun, hended, hW, hsame⟩ := X.leave (v := (some (.int z))) (fun h => by rw [hret] at h; cases h) hlocks
  exact ⟨_, _, retOut X hx hret (by rcases hz with rfl | rfl <;> rfl) (Or.inl ⟨rfl, Or.inr (Or.inl rfl), z, rfl⟩) (hb hby hd) hr, hrun, hended, _, _, rfl, hq, ⟨_, rfl⟩, hW, hsame.mono hc hs⟩
theorem own_retA (X : Stand p l e R s m args below meth c T locs cells slots) (hx : p.tables.exec = Jvm.exec) (hby : c.code = B) (hlocks : meth.locks = false) {Q : Option Value → Heap → List Loc → Prop} {kc ks : Nat} {t : FieldType} (hret : meth.sig.returnType = some t) (ht : t.isReference = true) {z : Value} (hz : z.isRef = true) (hd : decode B pc = .ok (.areturn, 1)) (hc : cells ≤ kc) (hs : slots ≤ ks) (eT : T.heap = h) (hq : Q (some z) h locs) : Gt p.tables e below (fun o U' => ∃ v Lc, o = .returned v ∧ Q v U'.heap Lc ∧ FrameEnd s o U' Lc kc ks) (T.setTop (mkF m pc L (z :: rest))) := by
  subst eT
  obtain ⟨fs, hr, hrun, hended, hW, hsame⟩ := X.leave (v := (some z)) (fun h => by rw [hret] at h; cases h) hlocks
  exact ⟨_, _, retOut X hx hret (by rcases ref_cases hz with rfl | ⟨a, rfl⟩ <;> cases t <;> simp_all [narrow, FieldType.isReference]) (Or.inr (Or.inr (Or.inr (Or.inr ⟨rfl, ht, hz⟩)))) (hb hby hd) hr, hrun, hended, _, _, rfl, hq, ⟨_, rfl⟩, hW, hsame.mono hc hs⟩
end OwnG
section OwnA
variable {p : Program} {l : Launch} {e : Env} {R : Room} {s : State} {m : MethodId} {args : Array Value} {below : List Frame} {meth : Method} {c : Code} {T : State} {locs : List Loc} {cells slots : Nat} {Z : State} {a0 : Array Value} {h h' : Heap} {B : ByteArray} {pc pc' : Nat} {L L' : Array Slot} {rest : List Value} {F : Outcome → State → Prop} {a b : Addr} {ty : FieldType} {vs : List Value} {P : ClassId → Prop} {sl : Nat} {v : Value} {ws : List Addr}
def tr (_ : ClassId) : Prop := True
/-- an array at a of kind ty whose components are the list vs, of a class with P -/
def Ary (P : ClassId → Prop) (Z : State) (h : Heap) (a : Addr) (ty : FieldType) (vs : List Value) : Prop := ∃ c : Cell, Arr Z h a c ty ∧ P c.cls ∧ c.slots.toList = vs ∧ vs.length < 2 ^ 31
theorem Ary.lt (V : Ary P Z h a ty vs) : a < h.size := by obtain ⟨c, A, -⟩ := V; exact A.lt
theorem Ary.ext (V : Ary P Z h a ty vs) (E : Ext h h') : Ary P Z h' a ty vs := by obtain ⟨c, A, r⟩ := V; exact ⟨c, A.ext E, r⟩
theorem Ary.other (V : Ary P Z h b ty vs) (W : Wr h h' a sl v) (q : b ≠ a) : Ary P Z h' b ty vs := by obtain ⟨c, A, r⟩ := V; exact ⟨c, A.other W q, r⟩
theorem Ary.keep (V : Ary P Z h a ty vs) (K : Keep h h' ws) (q : a ∉ ws) : Ary P Z h' a ty vs := by obtain ⟨c, A, r⟩ := V; exact ⟨c, ⟨K.2.1 a c A.1 q, A.2⟩, r⟩
theorem Ary.set (V : Ary P Z h a ty vs) (W : Wr h h' a sl v) : Ary P Z h' a ty (vs.set sl v) := by
  obtain ⟨c, A, q, r, t⟩ := V
  refine ⟨_, A.same W, q, ?_, by rw [List.length_set]; exact t⟩
  show (c.slots.setIfInBounds sl v).toList = _
  rw [Array.toList_setIfInBounds, r]
theorem Ary.size {cl : Cell} (r : cl.slots.toList = vs) : cl.slots.size = vs.length := by rw [← r]; simp
theorem Ary.inb {cl : Cell} {i : Int32} (r : cl.slots.toList = vs) (hi : ¬ i < 0) (hl : i.toNatClampNeg < vs.length) : ¬ (i < 0 ∨ cl.slots.size ≤ i.toNatClampNeg) := by
  rw [Ary.size r]; intro q; rcases q with q | q
  · exact hi q
  · omega
theorem Ary.at {cl : Cell} {i : Nat} (r : cl.slots.toList = vs) (hg : vs[i]? = some v) : cl.slots[i]? = some v := by
  rw [← hg, ← r]; simp
theorem own_alen (X : Stand p l e R s m args below meth c T locs cells slots) (hx : p.tables.exec = Jvm.exec) (hby : c.code = B) (hZ : Z.Warmed39 s.vm) (eT : T.heap = h) (V : Ary P Z h a ty vs) {z : Int32} (hz : vs.length.toInt32 = z) (hd : decode B pc = .ok (.arraylength, 1)) (hp : pc + 1 = pc') (k : Gt p.tables e below F (T.setTop (mkF m pc' L (.int z :: rest)))) : Gt p.tables e below F (T.setTop (mkF m pc L (.ref a :: rest))) := by
  subst hp hz
  obtain ⟨cl, A, -, r, t⟩ := V
  refine k.go fun t q => X.arraylength hx (by rw [eT]; exact A.1) (State.isArrayOf_alike hZ.alike A.2.1) (g := mkF m pc L (.ref a :: rest)) rfl rfl (hb hby hd) _ ?_
  rw [Ary.size r]; exact q
theorem own_iaload (X : Stand p l e R s m args below meth c T locs cells slots) (hx : p.tables.exec = Jvm.exec) (hby : c.code = B) (hZ : Z.Warmed39 s.vm) (eT : T.heap = h) (V : Ary P Z h a .int vs) {i : Int32} (hi : ¬ i < 0) (hg : vs[i.toNatClampNeg]? = some v) (hd : decode B pc = .ok (.iaload, 1)) (hp : pc + 1 = pc') (k : Gt p.tables e below F (T.setTop (mkF m pc' L (v :: rest)))) : Gt p.tables e below F (T.setTop (mkF m pc L (.int i :: .ref a :: rest))) := by
  subst hp
  obtain ⟨cl, A, -, r, t⟩ := V
  exact k.go fun t q => X.iaload hx (by rw [eT]; exact A.1) (State.isArrayOf_alike hZ.alike A.2.1) A.2.2 (Ary.inb r hi (List.getElem?_eq_some_iff.mp hg).1) (Ary.at r hg) (g := mkF m pc L (.int i :: .ref a :: rest)) rfl rfl (hb hby hd) _ q
theorem own_laload (X : Stand p l e R s m args below meth c T locs cells slots) (hx : p.tables.exec = Jvm.exec) (hby : c.code = B) (hZ : Z.Warmed39 s.vm) (eT : T.heap = h) (V : Ary P Z h a .long vs) {i : Int32} (hi : ¬ i < 0) (hg : vs[i.toNatClampNeg]? = some v) (hd : decode B pc = .ok (.laload, 1)) (hp : pc + 1 = pc') (k : Gt p.tables e below F (T.setTop (mkF m pc' L (v :: rest)))) : Gt p.tables e below F (T.setTop (mkF m pc L (.int i :: .ref a :: rest))) := by
  subst hp
  obtain ⟨cl, A, -, r, t⟩ := V
  exact k.go fun t q => X.laload hx (by rw [eT]; exact A.1) (State.isArrayOf_alike hZ.alike A.2.1) A.2.2 (Ary.inb r hi (List.getElem?_eq_some_iff.mp hg).1) (Ary.at r hg) (g := mkF m pc L (.int i :: .ref a :: rest)) rfl rfl (hb hby hd) _ q
theorem own_daload (X : Stand p l e R s m args below meth c T locs cells slots) (hx : p.tables.exec = Jvm.exec) (hby : c.code = B) (hZ : Z.Warmed39 s.vm) (eT : T.heap = h) (V : Ary P Z h a .double vs) {i : Int32} (hi : ¬ i < 0) (hg : vs[i.toNatClampNeg]? = some v) (hd : decode B pc = .ok (.daload, 1)) (hp : pc + 1 = pc') (k : Gt p.tables e below F (T.setTop (mkF m pc' L (v :: rest)))) : Gt p.tables e below F (T.setTop (mkF m pc L (.int i :: .ref a :: rest))) := by
  subst hp
  obtain ⟨cl, A, -, r, t⟩ := V
  exact k.go fun t q => X.daload hx (by rw [eT]; exact A.1) (State.isArrayOf_alike hZ.alike A.2.1) A.2.2 (Ary.inb r hi (List.getElem?_eq_some_iff.mp hg).1) (Ary.at r hg) (g := mkF m pc L (.int i :: .ref a :: rest)) rfl rfl (hb hby hd) _ q
theorem own_aaload (X : Stand p l e R s m args below meth c T locs cells slots) (hx : p.tables.exec = Jvm.exec) (hby : c.code = B) (hZ : Z.Warmed39 s.vm) (eT : T.heap = h) (V : Ary P Z h a ty vs) (hty : ty.isReference = true) {i : Int32} (hi : ¬ i < 0) (hg : vs[i.toNatClampNeg]? = some v) (hd : decode B pc = .ok (.aaload, 1)) (hp : pc + 1 = pc') (k : Gt p.tables e below F (T.setTop (mkF m pc' L (v :: rest)))) : Gt p.tables e below F (T.setTop (mkF m pc L (.int i :: .ref a :: rest))) := by
  subst hp
  obtain ⟨cl, A, -, r, t⟩ := V
  exact k.go fun t q => X.aaload hx (by rw [eT]; exact A.1) (State.isArrayOf_alike hZ.alike A.2.1) hty A.2.2 (Ary.inb r hi (List.getElem?_eq_some_iff.mp hg).1) (Ary.at r hg) (g := mkF m pc L (.int i :: .ref a :: rest)) rfl rfl (hb hby hd) _ q
theorem own_iastore (X : Stand p l e R s m args below meth c T locs cells slots) (hx : p.tables.exec = Jvm.exec) (hby : c.code = B) (hZ : Z.Warmed39 s.vm) (eT : T.heap = h) (V : Ary P Z h a .int vs) {i x : Int32} {n : Nat} (hi : ¬ i < 0) (hn : i.toNatClampNeg = n) (hl : n < vs.length) (hd : decode B pc = .ok (.iastore, 1)) (hp : pc + 1 = pc') (k : ∀ T' h', Stand p l e R s m args below meth c T' (locs ++ [⟨a, n⟩]) cells slots → T'.heap = h' → Wr h h' a n (.int x) → Gt p.tables e below F (T'.setTop (mkF m pc' L rest))) : Gt p.tables e below F (T.setTop (mkF m pc L (.int x :: .int i :: .ref a :: rest))) := by
  subst hp hn
  obtain ⟨cl, A, -, r, t⟩ := V
  obtain ⟨T', h', X', e', W, st⟩ := stI X hx hZ eT A (Ary.inb r hi hl) (g := mkF m pc L (.int x :: .int i :: .ref a :: rest)) rfl rfl (hb hby hd)
  exact (k T' h' X' e' W).go st
theorem own_lastore (X : Stand p l e R s m args below meth c T locs cells slots) (hx : p.tables.exec = Jvm.exec) (hby : c.code = B) (hZ : Z.Warmed39 s.vm) (eT : T.heap = h) (V : Ary P Z h a .long vs) {i : Int32} {x : Int64} {n : Nat} (hi : ¬ i < 0) (hn : i.toNatClampNeg = n) (hl : n < vs.length) (hd : decode B pc = .ok (.lastore, 1)) (hp : pc + 1 = pc') (k : ∀ T' h', Stand p l e R s m args below meth c T' (locs ++ [⟨a, n⟩]) cells slots → T'.heap = h' → Wr h h' a n (.long x) → Gt p.tables e below F (T'.setTop (mkF m pc' L rest))) : Gt p.tables e below F (T.setTop (mkF m pc L (.long x :: .int i :: .ref a :: rest))) := by
  subst hp hn
  obtain ⟨cl, A, -, r, t⟩ := V
  obtain ⟨T', h', X', e', W, st⟩ := stJ X hx hZ eT A (Ary.inb r hi hl) (g := mkF m pc L (.long x :: .int i :: .ref a :: rest)) rfl rfl (hb hby hd)
  exact (k T' h' X' e' W).go st
theorem own_dastore (X : Stand p l e R s m args below meth c T locs cells slots) (hx : p.tables.exec = Jvm.exec) (hby : c.code = B) (hZ : Z.Warmed39 s.vm) (eT : T.heap = h) (V : Ary P Z h a .double vs) {i : Int32} {x : UInt64} {n : Nat} (hi : ¬ i < 0) (hn : i.toNatClampNeg = n) (hl : n < vs.length) (hd : decode B pc = .ok (.dastore, 1)) (hp : pc + 1 = pc') (k : ∀ T' h', Stand p l e R s m args below meth c T' (locs ++ [⟨a, n⟩]) cells slots → T'.heap = h' → Wr h h' a n (.double x) → Gt p.tables e below F (T'.setTop (mkF m pc' L rest))) : Gt p.tables e below F (T.setTop (mkF m pc L (.double x :: .int i :: .ref a :: rest))) := by
  subst hp hn
  obtain ⟨cl, A, -, r, t⟩ := V
  obtain ⟨T', h', X', e', W, st⟩ := stD X hx hZ eT A (Ary.inb r hi hl) (g := mkF m pc L (.double x :: .int i :: .ref a :: rest)) rfl rfl (hb hby hd)
  exact (k T' h' X' e' W).go st
/-- what lies in it: an array class over C -/
def ovA (Z : State) (ty : FieldType) (C : String) (k : ClassId) : Prop := OvrA Z k ty C
def ovO (Z : State) (C : String) (k : ClassId) : Prop := Ovr Z k C
theorem own_aastoreA (X : Stand p l e R s m args below meth c T locs cells slots) (hx : p.tables.exec = Jvm.exec) (hby : c.code = B) (hZ : Z.Warmed39 s.vm) (eT : T.heap = h) {C : String} (V : Ary (ovA Z ty C) Z h a (.array ty) vs) {i : Int32} {x : Addr} {n : Nat} (E : Exa Z h x C) (hi : ¬ i < 0) (hn : i.toNatClampNeg = n) (hl : n < vs.length) (hd : decode B pc = .ok (.aastore, 1)) (hp : pc + 1 = pc') (k : ∀ T' h', Stand p l e R s m args below meth c T' (locs ++ [⟨a, n⟩]) cells slots → T'.heap = h' → Wr h h' a n (.ref x) → Gt p.tables e below F (T'.setTop (mkF m pc' L rest))) : Gt p.tables e below F (T.setTop (mkF m pc L (.ref x :: .int i :: .ref a :: rest))) := by
  subst hp hn
  obtain ⟨cl, A, O, r, t⟩ := V
  obtain ⟨T', h', X', e', W, st⟩ := stR X hx hZ eT A (Ary.inb r hi hl) rfl (Sto.ofVA A rfl O (Ins.self E)) (g := mkF m pc L (.ref x :: .int i :: .ref a :: rest)) rfl rfl (hb hby hd)
  exact (k T' h' X' e' W).go st
theorem own_aastoreO (X : Stand p l e R s m args below meth c T locs cells slots) (hx : p.tables.exec = Jvm.exec) (hby : c.code = B) (hZ : Z.Warmed39 s.vm) (eT : T.heap = h) {C : String} (V : Ary (ovO Z C) Z h a (.object C) vs) {i : Int32} {x : Addr} {n : Nat} (E : Exa Z h x C) (hi : ¬ i < 0) (hn : i.toNatClampNeg = n) (hl : n < vs.length) (hd : decode B pc = .ok (.aastore, 1)) (hp : pc + 1 = pc') (k : ∀ T' h', Stand p l e R s m args below meth c T' (locs ++ [⟨a, n⟩]) cells slots → T'.heap = h' → Wr h h' a n (.ref x) → Gt p.tables e below F (T'.setTop (mkF m pc' L rest))) : Gt p.tables e below F (T.setTop (mkF m pc L (.ref x :: .int i :: .ref a :: rest))) := by
  subst hp hn
  obtain ⟨cl, A, O, r, t⟩ := V
  obtain ⟨T', h', X', e', W, st⟩ := stR X hx hZ eT A (Ary.inb r hi hl) rfl (Sto.of A O (Ins.self E)) (g := mkF m pc L (.ref x :: .int i :: .ref a :: rest)) rfl rfl (hb hby hd)
  exact (k T' h' X' e' W).go st
theorem own_newP (X : Stand p l e R s m args below meth c T locs cells slots) (hx : p.tables.exec = Jvm.exec) (hby : c.code = B) (hZ : Z.Warmed39 s.vm) {aty : ArrayType} (w : (Jvm.Cond.arrayClass (newarray.typeOf aty)).before a0 Z = true) (eT : T.heap = h) (hd : decode B pc = .ok (.newarray aty, 2)) (hp : pc + 2 = pc') {n : Int32} (hn : ¬ n < 0) {N : Nat} (hN : n.toNatClampNeg = N) {cap : Nat} (hcap : N ≤ cap) (hbb : cap * 8 ≤ 536870912) (hc : cells + 1 ≤ R.cells) (hl : slots + cap ≤ R.slots) {ad : String} (had : "[" ++ (newarray.typeOf aty).toString = ad)
    (k : ∀ T' h' a, Stand p l e R s m args below meth c T' locs (cells + 1) (slots + cap) → T'.heap = h' → Ext h h' → h.size = a → Exa Z h' a ad → Ary tr Z h' a (newarray.typeOf aty) (List.replicate N (defaultValue (newarray.typeOf aty))) → Gt p.tables e below F (T'.setTop (mkF m pc' L (.ref a :: rest)))) : Gt p.tables e below F (T.setTop (mkF m pc L (.int n :: rest))) := by
  subst hp hN
  obtain ⟨T', h', cA, X', e', E', A', Ex, st⟩ := newPE X hx hZ w eT (g := mkF m pc L (.int n :: rest)) rfl (hb hby hd) rfl hn hcap hbb hc hl had
  exact (k T' h' _ X' e' E' rfl Ex ⟨_, A', trivial, by simp [newA], by rw [List.length_replicate]; exact (back32 hn).2⟩).go st
theorem own_newRA (X : Stand p l e R s m args below meth c T locs cells slots) (hx : p.tables.exec = Jvm.exec) (hby : c.code = B) (hZ : Z.Warmed39 s.vm) {own C : String} {index : Nat} (hown : s.vm.findClass own = some m.cls) (hC : (FieldType.array ty).toString = C) (w1 : (Jvm.Cond.classLink own index C).before a0 Z = true) (w2 : (Jvm.Cond.arrayOver (.array ty)).before a0 Z = true) (eT : T.heap = h) (hd : decode B pc = .ok (.anewarray index, 3)) (hp : pc + 3 = pc') {n : Int32} (hn : ¬ n < 0) {N : Nat} (hN : n.toNatClampNeg = N) {cap : Nat} (hcap : N ≤ cap) (hbb : cap * 8 ≤ 536870912) (hc : cells + 1 ≤ R.cells) (hl : slots + cap ≤ R.slots) {ad : String} (had : "[" ++ C = ad)
    (k : ∀ T' h' a, Stand p l e R s m args below meth c T' locs (cells + 1) (slots + cap) → T'.heap = h' → Ext h h' → h.size = a → Exa Z h' a ad → Ary (ovA Z ty C) Z h' a (.array ty) (List.replicate N .null) → Gt p.tables e below F (T'.setTop (mkF m pc' L (.ref a :: rest)))) : Gt p.tables e below F (T.setTop (mkF m pc L (.int n :: rest))) := by
  subst hp hN
  obtain ⟨T', h', cA, X', e', E', A', Ex, O, st⟩ := newRA X hx hZ hown hC w1 w2 eT (g := mkF m pc L (.int n :: rest)) rfl (hb hby hd) rfl hn hcap hbb hc hl had
  exact (k T' h' _ X' e' E' rfl Ex ⟨_, A', O, by simp [newA, defaultValue], by rw [List.length_replicate]; exact (back32 hn).2⟩).go st
theorem own_newRO (X : Stand p l e R s m args below meth c T locs cells slots) (hx : p.tables.exec = Jvm.exec) (hby : c.code = B) (hZ : Z.Warmed39 s.vm) {own C : String} {index : Nat} (hown : s.vm.findClass own = some m.cls) (w1 : (Jvm.Cond.classLink own index C).before a0 Z = true) (w2 : (Jvm.Cond.arrayOver (.object C)).before a0 Z = true) (eT : T.heap = h) (hd : decode B pc = .ok (.anewarray index, 3)) (hp : pc + 3 = pc') {n : Int32} (hn : ¬ n < 0) {N : Nat} (hN : n.toNatClampNeg = N) {cap : Nat} (hcap : N ≤ cap) (hbb : cap * 8 ≤ 536870912) (hc : cells + 1 ≤ R.cells) (hl : slots + cap ≤ R.slots) {ad : String} (had : "[" ++ (FieldType.object C).toString = ad)
    (k : ∀ T' h' a, Stand p l e R s m args below meth c T' locs (cells + 1) (slots + cap) → T'.heap = h' → Ext h h' → h.size = a → Exa Z h' a ad → Ary (ovO Z C) Z h' a (.object C) (List.replicate N .null) → Gt p.tables e below F (T'.setTop (mkF m pc' L (.ref a :: rest)))) : Gt p.tables e below F (T.setTop (mkF m pc L (.int n :: rest))) := by
  subst hp hN
  obtain ⟨T', h', cA, X', e', E', A', Ex, O, st⟩ := newRE X hx hZ hown w1 w2 eT (g := mkF m pc L (.int n :: rest)) rfl (hb hby hd) rfl hn hcap hbb hc hl had
  exact (k T' h' _ X' e' E' rfl Ex ⟨_, A', O, by simp [newA, defaultValue], by rw [List.length_replicate]; exact (back32 hn).2⟩).go st
/-- new T[3][3] of a primitive kind -/
theorem own_grid3 (X : Stand p l e R s m args below meth c T locs cells slots) (hx : p.tables.exec = Jvm.exec) (hby : c.code = B) (hZ : Z.Warmed39 s.vm) {own C ad : String} {index : Nat} (hown : s.vm.findClass own = some m.cls) (hC : (FieldType.array ty).toString = C) (had : "[" ++ C = ad)
    (w1 : (Jvm.Cond.classLink own index ad).before a0 Z = true) (w2 : (Jvm.Cond.arrayOver (.array ty)).before a0 Z = true) (w3 : (Jvm.Cond.arrayClass ty).before a0 Z = true) (eT : T.heap = h) (hd : decode B pc = .ok (.multianewarray index 2, 4)) (hp : pc + 4 = pc') (hdf : fits ty (defaultValue ty) = true) (hdd : (defaultValue ty).isDefault = true) (hc : cells + 4 ≤ R.cells) (hl : slots + 12 ≤ R.slots)
    (k : ∀ T' h' a b1 b2 b3, Stand p l e R s m args below meth c T' locs (cells + 4) (slots + 12) → T'.heap = h' → Ext h h' → h.size = a → a < b1 → b1 < b2 → b2 < b3 → Exa Z h' a ad → Ary (ovA Z ty C) Z h' a (.array ty) [.ref b1, .ref b2, .ref b3] → Exa Z h' b1 C → Exa Z h' b2 C → Exa Z h' b3 C → Ary tr Z h' b1 ty [defaultValue ty, defaultValue ty, defaultValue ty] → Ary tr Z h' b2 ty [defaultValue ty, defaultValue ty, defaultValue ty] → Ary tr Z h' b3 ty [defaultValue ty, defaultValue ty, defaultValue ty] → Gt p.tables e below F (T'.setTop (mkF m pc' L (.ref a :: rest)))) : Gt p.tables e below F (T.setTop (mkF m pc L (.int 3 :: .int 3 :: rest))) := by
  subst hp
  obtain ⟨T', h', cA, comp, X', e', E', ⟨cl, A1, A2, A3, A4, A5, A6⟩, O, Ex, I, st⟩ := gridM X hx hZ hown hC had w1 w2 w3 eT (g := mkF m pc L (.int 3 :: .int 3 :: rest)) rfl (hb hby hd) (n := 3) (k := 3) rfl (by decide) (by decide) (N := 3) (by decide) (xs := [h.size + 1, h.size + 2, h.size + 3]) rfl (cap := 3) (by decide) (by decide) (by decide) hdf hdd hc hl
  have i1 := I 0 _ rfl; have i2 := I 1 _ rfl; have i3 := I 2 _ rfl
  have f : ∀ x, Arr Z h' x (newA comp ty 3) ty → Ary tr Z h' x ty [defaultValue ty, defaultValue ty, defaultValue ty] := fun x q => ⟨_, q, trivial, by simp [newA], by show 3 < 2 ^ 31; decide⟩
  refine (k T' h' _ _ _ _ X' e' E' rfl (Nat.lt_succ_self _) (Nat.lt_succ_self _) (Nat.lt_succ_self _) Ex ⟨cl, A1, A2 ▸ O, ?_, by show 3 < 2 ^ 31; decide⟩ i1.2 i2.2 i3.2 (f _ i1.1) (f _ i2.1) (f _ i3.1)).go st
  have sz : cl.slots.size = 3 := A3
  refine List.ext_getElem? fun i => ?_
  by_cases hi : i < 3
  · have q := A5 i (by omega)
    rw [Array.getElem?_toList, q]
    match i, hi with
    | 0, _ => rfl
    | 1, _ => rfl
    | 2, _ => rfl
  · rw [List.getElem?_eq_none (by simp; omega), List.getElem?_eq_none (by simp; omega)]
end OwnA
section OwnL
theorem own_lget {α : Type} {L : List α} {d : α} {i : Nat} {f : α → Value} (h : i < L.length) : (L.map f)[i]? = some (f (L.getD i d)) := by
  rw [List.getElem?_map, List.getD_eq_getElem?_getD, List.getElem?_eq_getElem h]; rfl
theorem own_rg0 {i : Int32} {m : Int} (h : 0 ≤ i.toInt ∧ i.toInt < m) : ¬ i < 0 := by
  rw [Int32.lt_iff_toInt_lt]; have : (0 : Int32).toInt = 0 := by decide
  omega
theorem own_rgl {α : Type} {L : List α} {i : Int32} {m : Int} {n : Nat} (h : 0 ≤ i.toInt ∧ i.toInt < m) (hl : L.length = n) (e : m.toNat = n := by rfl) : i.toNatClampNeg < L.length := by
  show i.toInt.toNat < _; omega
end OwnL
section OwnC
variable {x y : UInt64} {i j : Int64} {a b : Int32}
abbrev dlt (x y : UInt64) : Prop := FP.dcmp x y = some .lt
abbrev dgt (x y : UInt64) : Prop := FP.dcmp x y = some .gt
abbrev deq (x y : UInt64) : Prop := FP.dcmp x y = some .eq
abbrev dle (x y : UInt64) : Prop := FP.dcmp x y = some .lt ∨ FP.dcmp x y = some .eq
abbrev dge (x y : UInt64) : Prop := FP.dcmp x y = some .gt ∨ FP.dcmp x y = some .eq
theorem own_dl_lt_p (h : dge x y) : ifCond.holds .lt (cmpValue (FP.dcmp x y) .l) = false := by
  unfold dge at h; revert h; generalize FP.dcmp x y = o; rcases o with _ | (_ | _ | _) <;> decide
theorem own_dl_lt_n (h : ¬ dge x y) : ifCond.holds .lt (cmpValue (FP.dcmp x y) .l) = true := by
  unfold dge at h; revert h; generalize FP.dcmp x y = o; rcases o with _ | (_ | _ | _) <;> decide
theorem own_dl_ge_p (h : dge x y) : ifCond.holds .ge (cmpValue (FP.dcmp x y) .l) = true := by
  unfold dge at h; revert h; generalize FP.dcmp x y = o; rcases o with _ | (_ | _ | _) <;> decide
theorem own_dl_ge_n (h : ¬ dge x y) : ifCond.holds .ge (cmpValue (FP.dcmp x y) .l) = false := by
  unfold dge at h; revert h; generalize FP.dcmp x y = o; rcases o with _ | (_ | _ | _) <;> decide
theorem own_dl_gt_p (h : dgt x y) : ifCond.holds .gt (cmpValue (FP.dcmp x y) .l) = true := by
  unfold dgt at h; revert h; generalize FP.dcmp x y = o; rcases o with _ | (_ | _ | _) <;> decide
theorem own_dl_gt_n (h : ¬ dgt x y) : ifCond.holds .gt (cmpValue (FP.dcmp x y) .l) = false := by
  unfold dgt at h; revert h; generalize FP.dcmp x y = o; rcases o with _ | (_ | _ | _) <;> decide
theorem own_dl_le_p (h : dgt x y) : ifCond.holds .le (cmpValue (FP.dcmp x y) .l) = false := by
  unfold dgt at h; revert h; generalize FP.dcmp x y = o; rcases o with _ | (_ | _ | _) <;> decide
theorem own_dl_le_n (h : ¬ dgt x y) : ifCond.holds .le (cmpValue (FP.dcmp x y) .l) = true := by
  unfold dgt at h; revert h; generalize FP.dcmp x y = o; rcases o with _ | (_ | _ | _) <;> decide
theorem own_dl_eq_p (h : deq x y) : ifCond.holds .eq (cmpValue (FP.dcmp x y) .l) = true := by
  unfold deq at h; revert h; generalize FP.dcmp x y = o; rcases o with _ | (_ | _ | _) <;> decide
theorem own_dl_eq_n (h : ¬ deq x y) : ifCond.holds .eq (cmpValue (FP.dcmp x y) .l) = false := by
  unfold deq at h; revert h; generalize FP.dcmp x y = o; rcases o with _ | (_ | _ | _) <;> decide
theorem own_dl_ne_p (h : deq x y) : ifCond.holds .ne (cmpValue (FP.dcmp x y) .l) = false := by
  unfold deq at h; revert h; generalize FP.dcmp x y = o; rcases o with _ | (_ | _ | _) <;> decide
theorem own_dl_ne_n (h : ¬ deq x y) : ifCond.holds .ne (cmpValue (FP.dcmp x y) .l) = true := by
  unfold deq at h; revert h; generalize FP.dcmp x y = o; rcases o with _ | (_ | _ | _) <;> decide
theorem own_dg_lt_p (h : dlt x y) : ifCond.holds .lt (cmpValue (FP.dcmp x y) .g) = true := by
  unfold dlt at h; revert h; generalize FP.dcmp x y = o; rcases o with _ | (_ | _ | _) <;> decide
theorem own_dg_lt_n (h : ¬ dlt x y) : ifCond.holds .lt (cmpValue (FP.dcmp x y) .g) = false := by
  unfold dlt at h; revert h; generalize FP.dcmp x y = o; rcases o with _ | (_ | _ | _) <;> decide
theorem own_dg_ge_p (h : dlt x y) : ifCond.holds .ge (cmpValue (FP.dcmp x y) .g) = false := by
  unfold dlt at h; revert h; generalize FP.dcmp x y = o; rcases o with _ | (_ | _ | _) <;> decide
theorem own_dg_ge_n (h : ¬ dlt x y) : ifCond.holds .ge (cmpValue (FP.dcmp x y) .g) = true := by
  unfold dlt at h; revert h; generalize FP.dcmp x y = o; rcases o with _ | (_ | _ | _) <;> decide
theorem own_dg_gt_p (h : dle x y) : ifCond.holds .gt (cmpValue (FP.dcmp x y) .g) = false := by
  unfold dle at h; revert h; generalize FP.dcmp x y = o; rcases o with _ | (_ | _ | _) <;> decide
theorem own_dg_gt_n (h : ¬ dle x y) : ifCond.holds .gt (cmpValue (FP.dcmp x y) .g) = true := by
  unfold dle at h; revert h; generalize FP.dcmp x y = o; rcases o with _ | (_ | _ | _) <;> decide
theorem own_dg_le_p (h : dle x y) : ifCond.holds .le (cmpValue (FP.dcmp x y) .g) = true := by
  unfold dle at h; revert h; generalize FP.dcmp x y = o; rcases o with _ | (_ | _ | _) <;> decide
theorem own_dg_le_n (h : ¬ dle x y) : ifCond.holds .le (cmpValue (FP.dcmp x y) .g) = false := by
  unfold dle at h; revert h; generalize FP.dcmp x y = o; rcases o with _ | (_ | _ | _) <;> decide
theorem own_dg_eq_p (h : deq x y) : ifCond.holds .eq (cmpValue (FP.dcmp x y) .g) = true := by
  unfold deq at h; revert h; generalize FP.dcmp x y = o; rcases o with _ | (_ | _ | _) <;> decide
theorem own_dg_eq_n (h : ¬ deq x y) : ifCond.holds .eq (cmpValue (FP.dcmp x y) .g) = false := by
  unfold deq at h; revert h; generalize FP.dcmp x y = o; rcases o with _ | (_ | _ | _) <;> decide
theorem own_dg_ne_p (h : deq x y) : ifCond.holds .ne (cmpValue (FP.dcmp x y) .g) = false := by
  unfold deq at h; revert h; generalize FP.dcmp x y = o; rcases o with _ | (_ | _ | _) <;> decide
theorem own_dg_ne_n (h : ¬ deq x y) : ifCond.holds .ne (cmpValue (FP.dcmp x y) .g) = true := by
  unfold deq at h; revert h; generalize FP.dcmp x y = o; rcases o with _ | (_ | _ | _) <;> decide
theorem own_lc_lt_p (h : i < j) : ifCond.holds .lt (if i > j then 1 else if i = j then 0 else -1 : Int32) = true := by
  simp only [gt_iff_lt, Int64.lt_iff_toInt_lt, ← Int64.toInt_inj] at h ⊢
  rcases Int.lt_trichotomy i.toInt j.toInt with q | q | q
  · rw [if_neg (by omega), if_neg (by omega)]; first | rfl | (exfalso; omega)
  · rw [if_neg (by omega), if_pos q]; first | rfl | (exfalso; omega)
  · rw [if_pos q]; first | rfl | (exfalso; omega)
theorem own_lc_lt_n (h : ¬ i < j) : ifCond.holds .lt (if i > j then 1 else if i = j then 0 else -1 : Int32) = false := by
  simp only [gt_iff_lt, Int64.lt_iff_toInt_lt, ← Int64.toInt_inj] at h ⊢
  rcases Int.lt_trichotomy i.toInt j.toInt with q | q | q
  · rw [if_neg (by omega), if_neg (by omega)]; first | rfl | (exfalso; omega)
  · rw [if_neg (by omega), if_pos q]; first | rfl | (exfalso; omega)
  · rw [if_pos q]; first | rfl | (exfalso; omega)
theorem own_lc_ge_p (h : i < j) : ifCond.holds .ge (if i > j then 1 else if i = j then 0 else -1 : Int32) = false := by
  simp only [gt_iff_lt, Int64.lt_iff_toInt_lt, ← Int64.toInt_inj] at h ⊢
  rcases Int.lt_trichotomy i.toInt j.toInt with q | q | q
  · rw [if_neg (by omega), if_neg (by omega)]; first | rfl | (exfalso; omega)
  · rw [if_neg (by omega), if_pos q]; first | rfl | (exfalso; omega)
  · rw [if_pos q]; first | rfl | (exfalso; omega)
theorem own_lc_ge_n (h : ¬ i < j) : ifCond.holds .ge (if i > j then 1 else if i = j then 0 else -1 : Int32) = true := by
  simp only [gt_iff_lt, Int64.lt_iff_toInt_lt, ← Int64.toInt_inj] at h ⊢
  rcases Int.lt_trichotomy i.toInt j.toInt with q | q | q
  · rw [if_neg (by omega), if_neg (by omega)]; first | rfl | (exfalso; omega)
  · rw [if_neg (by omega), if_pos q]; first | rfl | (exfalso; omega)
  · rw [if_pos q]; first | rfl | (exfalso; omega)
theorem own_lc_gt_p (h : j < i) : ifCond.holds .gt (if i > j then 1 else if i = j then 0 else -1 : Int32) = true := by
  simp only [gt_iff_lt, Int64.lt_iff_toInt_lt, ← Int64.toInt_inj] at h ⊢
  rcases Int.lt_trichotomy i.toInt j.toInt with q | q | q
  · rw [if_neg (by omega), if_neg (by omega)]; first | rfl | (exfalso; omega)
  · rw [if_neg (by omega), if_pos q]; first | rfl | (exfalso; omega)
  · rw [if_pos q]; first | rfl | (exfalso; omega)
theorem own_lc_gt_n (h : ¬ j < i) : ifCond.holds .gt (if i > j then 1 else if i = j then 0 else -1 : Int32) = false := by
  simp only [gt_iff_lt, Int64.lt_iff_toInt_lt, ← Int64.toInt_inj] at h ⊢
  rcases Int.lt_trichotomy i.toInt j.toInt with q | q | q
  · rw [if_neg (by omega), if_neg (by omega)]; first | rfl | (exfalso; omega)
  · rw [if_neg (by omega), if_pos q]; first | rfl | (exfalso; omega)
  · rw [if_pos q]; first | rfl | (exfalso; omega)
theorem own_lc_le_p (h : j < i) : ifCond.holds .le (if i > j then 1 else if i = j then 0 else -1 : Int32) = false := by
  simp only [gt_iff_lt, Int64.lt_iff_toInt_lt, ← Int64.toInt_inj] at h ⊢
  rcases Int.lt_trichotomy i.toInt j.toInt with q | q | q
  · rw [if_neg (by omega), if_neg (by omega)]; first | rfl | (exfalso; omega)
  · rw [if_neg (by omega), if_pos q]; first | rfl | (exfalso; omega)
  · rw [if_pos q]; first | rfl | (exfalso; omega)
theorem own_lc_le_n (h : ¬ j < i) : ifCond.holds .le (if i > j then 1 else if i = j then 0 else -1 : Int32) = true := by
  simp only [gt_iff_lt, Int64.lt_iff_toInt_lt, ← Int64.toInt_inj] at h ⊢
  rcases Int.lt_trichotomy i.toInt j.toInt with q | q | q
  · rw [if_neg (by omega), if_neg (by omega)]; first | rfl | (exfalso; omega)
  · rw [if_neg (by omega), if_pos q]; first | rfl | (exfalso; omega)
  · rw [if_pos q]; first | rfl | (exfalso; omega)
theorem own_lc_eq_p (h : i = j) : ifCond.holds .eq (if i > j then 1 else if i = j then 0 else -1 : Int32) = true := by
  simp only [gt_iff_lt, Int64.lt_iff_toInt_lt, ← Int64.toInt_inj] at h ⊢
  rcases Int.lt_trichotomy i.toInt j.toInt with q | q | q
  · rw [if_neg (by omega), if_neg (by omega)]; first | rfl | (exfalso; omega)
  · rw [if_neg (by omega), if_pos q]; first | rfl | (exfalso; omega)
  · rw [if_pos q]; first | rfl | (exfalso; omega)
theorem own_lc_eq_n (h : ¬ i = j) : ifCond.holds .eq (if i > j then 1 else if i = j then 0 else -1 : Int32) = false := by
  simp only [gt_iff_lt, Int64.lt_iff_toInt_lt, ← Int64.toInt_inj] at h ⊢
  rcases Int.lt_trichotomy i.toInt j.toInt with q | q | q
  · rw [if_neg (by omega), if_neg (by omega)]; first | rfl | (exfalso; omega)
  · rw [if_neg (by omega), if_pos q]; first | rfl | (exfalso; omega)
  · rw [if_pos q]; first | rfl | (exfalso; omega)
theorem own_lc_ne_p (h : i = j) : ifCond.holds .ne (if i > j then 1 else if i = j then 0 else -1 : Int32) = false := by
  simp only [gt_iff_lt, Int64.lt_iff_toInt_lt, ← Int64.toInt_inj] at h ⊢
  rcases Int.lt_trichotomy i.toInt j.toInt with q | q | q
  · rw [if_neg (by omega), if_neg (by omega)]; first | rfl | (exfalso; omega)
  · rw [if_neg (by omega), if_pos q]; first | rfl | (exfalso; omega)
  · rw [if_pos q]; first | rfl | (exfalso; omega)
theorem own_lc_ne_n (h : ¬ i = j) : ifCond.holds .ne (if i > j then 1 else if i = j then 0 else -1 : Int32) = true := by
  simp only [gt_iff_lt, Int64.lt_iff_toInt_lt, ← Int64.toInt_inj] at h ⊢
  rcases Int.lt_trichotomy i.toInt j.toInt with q | q | q
  · rw [if_neg (by omega), if_neg (by omega)]; first | rfl | (exfalso; omega)
  · rw [if_neg (by omega), if_pos q]; first | rfl | (exfalso; omega)
  · rw [if_pos q]; first | rfl | (exfalso; omega)
theorem own_i0_lt_p (h : a < 0) : ifCond.holds .lt a = true := (if0 _ _).trans (tlt h).1
theorem own_i0_lt_n (h : ¬ a < 0) : ifCond.holds .lt a = false := (if0 _ _).trans (flt h).1
theorem own_i0_ge_p (h : a < 0) : ifCond.holds .ge a = false := (if0 _ _).trans (tlt h).2.1
theorem own_i0_ge_n (h : ¬ a < 0) : ifCond.holds .ge a = true := (if0 _ _).trans (flt h).2.1
theorem own_i0_gt_p (h : 0 < a) : ifCond.holds .gt a = true := (if0 _ _).trans (tlt h).2.2.1
theorem own_i0_gt_n (h : ¬ 0 < a) : ifCond.holds .gt a = false := (if0 _ _).trans (flt h).2.2.1
theorem own_i0_le_p (h : 0 < a) : ifCond.holds .le a = false := (if0 _ _).trans (tlt h).2.2.2
theorem own_i0_le_n (h : ¬ 0 < a) : ifCond.holds .le a = true := (if0 _ _).trans (flt h).2.2.2
theorem own_i0_eq_p (h : a = 0) : ifCond.holds .eq a = true := (if0 _ _).trans (teq h).1
theorem own_i0_eq_n (h : ¬ a = 0) : ifCond.holds .eq a = false := (if0 _ _).trans (feq h).1
theorem own_i0_ne_p (h : a = 0) : ifCond.holds .ne a = false := (if0 _ _).trans (teq h).2
theorem own_i0_ne_n (h : ¬ a = 0) : ifCond.holds .ne a = true := (if0 _ _).trans (feq h).2
theorem own_ic_lt_p (h : a < b) : if_icmp.holds .lt a b = true := (tlt h).1
theorem own_ic_lt_n (h : ¬ a < b) : if_icmp.holds .lt a b = false := (flt h).1
theorem own_ic_ge_p (h : a < b) : if_icmp.holds .ge a b = false := (tlt h).2.1
theorem own_ic_ge_n (h : ¬ a < b) : if_icmp.holds .ge a b = true := (flt h).2.1
theorem own_ic_gt_p (h : b < a) : if_icmp.holds .gt a b = true := (tlt h).2.2.1
theorem own_ic_gt_n (h : ¬ b < a) : if_icmp.holds .gt a b = false := (flt h).2.2.1
theorem own_ic_le_p (h : b < a) : if_icmp.holds .le a b = false := (tlt h).2.2.2
theorem own_ic_le_n (h : ¬ b < a) : if_icmp.holds .le a b = true := (flt h).2.2.2
theorem own_ic_eq_p (h : a = b) : if_icmp.holds .eq a b = true := (teq h).1
theorem own_ic_eq_n (h : ¬ a = b) : if_icmp.holds .eq a b = false := (feq h).1
theorem own_ic_ne_p (h : a = b) : if_icmp.holds .ne a b = false := (teq h).2
theorem own_ic_ne_n (h : ¬ a = b) : if_icmp.holds .ne a b = true := (feq h).2
end OwnC
section OwnF
open Jvm.FP.Core (val64 zval zmag b64 one64 DFin DZero good_b64 val64_fits inUnits signed sgn)
/-- the value in units of 2^-1074 -/
abbrev zv (x : UInt64) : Int := zval b64 (val64 x)
def uu : Int := ((one64 : Nat) : Int)
theorem uu_pos : 0 < uu := by have := FP.Core.one64_pos; show (0 : Int) < ((one64 : Nat) : Int); omega
theorem own_add_le {x y V : UInt64} (hx : DFin x) (hy : DFin y) (hV : val64 V ≠ .nan) (h : zv x + zv y ≤ zv V) : zv (FP.dadd x y) ≤ zv V := by
  show zval b64 (val64 (FP.Core.dadd x y)) ≤ _
  rw [FP.Core.val64_dadd]; exact FP.Core.sum_le good_b64 hx hy (val64_fits x) (val64_fits y) (val64_fits V) hV h
theorem own_add_ge {x y V : UInt64} (hx : DFin x) (hy : DFin y) (hV : val64 V ≠ .nan) (h : zv V ≤ zv x + zv y) : zv V ≤ zv (FP.dadd x y) := by
  show _ ≤ zval b64 (val64 (FP.Core.dadd x y))
  rw [FP.Core.val64_dadd]; exact FP.Core.sum_ge good_b64 hx hy (val64_fits x) (val64_fits y) (val64_fits V) hV h
theorem own_neg_fin {y : UInt64} (hy : DFin y) : ∃ s c q, FP.Core.negate (val64 y) = .fin s c q := by
  obtain ⟨s, c, q, h⟩ := hy; exact ⟨!s, c, q, by rw [h]; rfl⟩
theorem own_sub_le {x y V : UInt64} (hx : DFin x) (hy : DFin y) (hV : val64 V ≠ .nan) (h : zv x - zv y ≤ zv V) : zv (FP.dsub x y) ≤ zv V := by
  show zval b64 (val64 (FP.Core.dsub x y)) ≤ _
  rw [FP.Core.val64_dsub]; exact FP.Core.sum_le good_b64 hx (own_neg_fin hy) (val64_fits x) (FP.Core.negate_fits (val64_fits y)) (val64_fits V) hV (by rw [FP.Core.zval_negate]; unfold zv at h; omega)
theorem own_sub_ge {x y V : UInt64} (hx : DFin x) (hy : DFin y) (hV : val64 V ≠ .nan) (h : zv V ≤ zv x - zv y) : zv V ≤ zv (FP.dsub x y) := by
  show _ ≤ zval b64 (val64 (FP.Core.dsub x y))
  rw [FP.Core.val64_dsub]; exact FP.Core.sum_ge good_b64 hx (own_neg_fin hy) (val64_fits x) (FP.Core.negate_fits (val64_fits y)) (val64_fits V) hV (by rw [FP.Core.zval_negate]; unfold zv at h; omega)
theorem own_signed_mul (s t : Bool) (m n : Nat) : signed (s != t) (m * n) = signed s m * signed t n := by
  cases s <;> cases t <;> simp [signed, Int.neg_mul, Int.mul_neg]
theorem own_qm : b64.qmin = -1074 := by decide
theorem own_pow_e0 : ((2 ^ (b64.qmin - 2 * b64.qmin).toNat : Nat) : Int) = uu := by
  show _ = ((one64 : Nat) : Int); rw [← FP.Core.pow_qmin64]; congr 3
theorem own_mul_le {x y V : UInt64} (hx : DFin x) (hy : DFin y) (hV : val64 V ≠ .nan) (h : zv x * zv y ≤ zv V * uu) : zv (FP.dmul x y) ≤ zv V := by
  show zval b64 (val64 (FP.Core.dmul x y)) ≤ _
  obtain ⟨s, c, q, ex⟩ := hx
  obtain ⟨t, d, r, ey⟩ := hy
  have fx := val64_fits x; have fy := val64_fits y
  rw [ex] at fx; rw [ey] at fy
  unfold zv at h
  rw [ex, ey] at h
  rw [FP.Core.val64_dmul, ex, ey]
  obtain ⟨e1, e2, e3⟩ := FP.Core.product_units fx fy
  rw [e1]
  refine FP.Core.zval_round_le good_b64 (val64_fits V) hV (e0 := 2 * b64.qmin) (by rw [own_qm]; decide) e2 ?_
  rw [e3, own_pow_e0, own_signed_mul]; exact h
theorem own_mul_ge {x y V : UInt64} (hx : DFin x) (hy : DFin y) (hV : val64 V ≠ .nan) (h : zv V * uu ≤ zv x * zv y) : zv V ≤ zv (FP.dmul x y) := by
  show _ ≤ zval b64 (val64 (FP.Core.dmul x y))
  obtain ⟨s, c, q, ex⟩ := hx
  obtain ⟨t, d, r, ey⟩ := hy
  have fx := val64_fits x; have fy := val64_fits y
  rw [ex] at fx; rw [ey] at fy
  unfold zv at h
  rw [ex, ey] at h
  rw [FP.Core.val64_dmul, ex, ey]
  obtain ⟨e1, e2, e3⟩ := FP.Core.product_units fx fy
  rw [e1]
  refine FP.Core.zval_round_ge good_b64 (val64_fits V) hV (e0 := 2 * b64.qmin) (by rw [own_qm]; decide) e2 ?_
  rw [e3, own_pow_e0, own_signed_mul]; exact h
/-- a quotient's two sides in whole units -/
theorem own_div_units {c d : Nat} {q r : Int} (hq : -1074 ≤ q) (hr : -1074 ≤ r) (hr2 : r ≤ 971) (v : Nat) :
    ∃ k : Nat, 0 < k ∧ inUnits c (q - r) (-2148) * k = inUnits c q (-1074) * one64 * 2 ^ 1074 ∧ (v * 2 ^ (1074 : Nat) * d) * k = v * inUnits d r (-1074) * 2 ^ 1074 := by
  refine ⟨2 ^ (r + 1074).toNat, Nat.two_pow_pos _, ?_, ?_⟩
  · unfold inUnits one64
    rw [Nat.mul_assoc, ← Nat.pow_add, Nat.mul_assoc, Nat.mul_assoc, ← Nat.pow_add, ← Nat.pow_add, show (q - r - -2148).toNat + (r + 1074).toNat = (q - -1074).toNat + (1074 + 1074) by omega]
  · unfold inUnits
    rw [show (r - -1074).toNat = (r + 1074).toNat by omega]
    generalize 2 ^ (1074 : Nat) = w
    generalize 2 ^ (r + 1074).toNat = u
    simp only [Nat.mul_comm, Nat.mul_left_comm, Nat.mul_assoc]
theorem own_div_mag_le {x y V : UInt64} (hx : DFin x) (hy : DFin y) (hz : ¬ DZero y) (hV : val64 V ≠ .nan) (h : zmag b64 (val64 x) * one64 ≤ zmag b64 (val64 V) * zmag b64 (val64 y)) : zmag b64 (val64 (FP.ddiv x y)) ≤ zmag b64 (val64 V) := by
  show zmag b64 (val64 (FP.Core.ddiv x y)) ≤ _
  obtain ⟨s, c, q, ex⟩ := hx
  obtain ⟨t, d, r, ey⟩ := hy
  have fx := val64_fits x; have fy := val64_fits y
  rw [ex] at fx; rw [ey] at fy
  have hd : d ≠ 0 := fun e => hz ⟨t, r, by rw [ey, e]⟩
  rw [FP.Core.val64_ddiv, ex, ey]
  rw [ex, ey] at h
  show zmag b64 (if d = 0 then _ else FP.Core.roundRatio b64 (s != t) c d (q - r)) ≤ _
  rw [if_neg hd]
  have b1 : -1074 ≤ q := own_qm ▸ fx.2.1
  have b2 : -1074 ≤ r := own_qm ▸ fy.2.1
  have b3 : r ≤ 971 := fy.2.2.1
  refine FP.Core.zmag_roundRatio_le good_b64 (Nat.pos_of_ne_zero hd) (val64_fits V) hV (e0 := -2148) (by rw [own_qm]; decide) (by omega) ?_
  obtain ⟨k, hk, k1, k2⟩ := own_div_units (c := c) (d := d) b1 b2 b3 (zmag b64 (val64 V))
  rw [show (b64.qmin - -2148).toNat = 1074 by rw [own_qm]; decide]
  refine Nat.le_of_mul_le_mul_right ?_ hk
  rw [k1, k2]
  exact Nat.mul_le_mul_right _ (by have := h; simp only [zmag, own_qm] at this; exact this)
theorem own_div_mag_ge {x y V : UInt64} (hx : DFin x) (hy : DFin y) (hz : ¬ DZero y) (h : zmag b64 (val64 V) * zmag b64 (val64 y) ≤ zmag b64 (val64 x) * one64) : zmag b64 (val64 V) ≤ zmag b64 (val64 (FP.ddiv x y)) := by
  show _ ≤ zmag b64 (val64 (FP.Core.ddiv x y))
  obtain ⟨s, c, q, ex⟩ := hx
  obtain ⟨t, d, r, ey⟩ := hy
  have fx := val64_fits x; have fy := val64_fits y
  rw [ex] at fx; rw [ey] at fy
  have hd : d ≠ 0 := fun e => hz ⟨t, r, by rw [ey, e]⟩
  rw [FP.Core.val64_ddiv, ex, ey]
  rw [ex, ey] at h
  show _ ≤ zmag b64 (if d = 0 then _ else FP.Core.roundRatio b64 (s != t) c d (q - r))
  rw [if_neg hd]
  have b1 : -1074 ≤ q := own_qm ▸ fx.2.1
  have b2 : -1074 ≤ r := own_qm ▸ fy.2.1
  have b3 : r ≤ 971 := fy.2.2.1
  refine FP.Core.zmag_roundRatio_ge good_b64 (Nat.pos_of_ne_zero hd) (val64_fits V) (e0 := -2148) (by rw [own_qm]; decide) (by omega) ?_
  obtain ⟨k, hk, k1, k2⟩ := own_div_units (c := c) (d := d) b1 b2 b3 (zmag b64 (val64 V))
  rw [show (b64.qmin - -2148).toNat = 1074 by rw [own_qm]; decide]
  refine Nat.le_of_mul_le_mul_right ?_ hk
  rw [k1, k2]
  exact Nat.mul_le_mul_right _ (by have := h; simp only [zmag, own_qm] at this; exact this)
theorem own_sgn_div {x y : UInt64} (hx : DFin x) (hy : DFin y) (hz : ¬ DZero y) : sgn (val64 (FP.ddiv x y)) = (sgn (val64 x) != sgn (val64 y)) := by
  show sgn (val64 (FP.Core.ddiv x y)) = _
  obtain ⟨s, c, q, ex⟩ := hx
  obtain ⟨t, d, r, ey⟩ := hy
  have hd : d ≠ 0 := fun e => hz ⟨t, r, by rw [ey, e]⟩
  rw [FP.Core.val64_ddiv, ex, ey]
  show sgn (if d = 0 then _ else FP.Core.roundRatio b64 (s != t) c d (q - r)) = _
  rw [if_neg hd, FP.Core.sgn_roundRatio]; rfl
theorem own_notz {y : UInt64} (hy : DFin y) (h : 0 < zv y) : ¬ DZero y := fun q => by have := q.zval; unfold zv at h; omega
theorem own_possg {y : UInt64} (h : 0 < zv y) : sgn (val64 y) = false ∧ ((zmag b64 (val64 y) : Nat) : Int) = zv y := by
  unfold zv zval at *
  cases e : sgn (val64 y) <;> rw [e] at h <;> simp only [signed, if_true, Bool.false_eq_true, if_false] at h ⊢
  · exact ⟨trivial, trivial⟩
  · omega
theorem own_div_le {x y V : UInt64} (hx : DFin x) (hy : DFin y) (h0 : 0 < zv y) (hV : val64 V ≠ .nan) (h : zv x * uu ≤ zv V * zv y) : zv (FP.ddiv x y) ≤ zv V := by
  have hz := own_notz hy h0
  obtain ⟨s1, s2⟩ := own_possg h0
  have sd := own_sgn_div hx hy hz
  have L := own_div_mag_le (V := V) hx hy hz hV
  have G := own_div_mag_ge (V := V) hx hy hz
  rw [← s2] at h
  have hy0 : 0 < zmag b64 (val64 y) := by omega
  unfold zv zval at h ⊢
  rw [sd, s1]
  have u0 := FP.Core.one64_pos
  have e : uu = ((one64 : Nat) : Int) := rfl
  rw [e] at h
  generalize zmag b64 (val64 y) = my at *
  generalize zmag b64 (val64 x) = mx at *
  generalize zmag b64 (val64 V) = mv at *
  generalize zmag b64 (val64 (FP.ddiv x y)) = md at *
  generalize one64 = u at *
  have p1 : ((mx : Nat) : Int) * ((u : Nat) : Int) = ((mx * u : Nat) : Int) := (Int.natCast_mul ..).symm
  have p2 : ((mv : Nat) : Int) * ((my : Nat) : Int) = ((mv * my : Nat) : Int) := (Int.natCast_mul ..).symm
  have z1 : mv * my = 0 → mv = 0 := fun q => by rcases Nat.mul_eq_zero.mp q with q | q <;> omega
  generalize sgn (val64 x) = sx at h ⊢
  generalize sgn (val64 V) = sV at h ⊢
  cases sx <;> cases sV <;> simp only [signed, if_true, Bool.false_eq_true, if_false, Int.neg_mul, p1, p2, bne_self_eq_false, Bool.bne_false] at h ⊢
  · have := L (by omega); omega
  · have := L (by omega); have := z1 (by omega); omega
  · omega
  · have := G (by omega); omega
theorem own_div_ge {x y V : UInt64} (hx : DFin x) (hy : DFin y) (h0 : 0 < zv y) (hV : val64 V ≠ .nan) (h : zv V * zv y ≤ zv x * uu) : zv V ≤ zv (FP.ddiv x y) := by
  have hz := own_notz hy h0
  obtain ⟨s1, s2⟩ := own_possg h0
  have sd := own_sgn_div hx hy hz
  have L := own_div_mag_le (V := V) hx hy hz hV
  have G := own_div_mag_ge (V := V) hx hy hz
  rw [← s2] at h
  have hy0 : 0 < zmag b64 (val64 y) := by omega
  unfold zv zval at h ⊢
  rw [sd, s1]
  have u0 := FP.Core.one64_pos
  have e : uu = ((one64 : Nat) : Int) := rfl
  rw [e] at h
  generalize zmag b64 (val64 y) = my at *
  generalize zmag b64 (val64 x) = mx at *
  generalize zmag b64 (val64 V) = mv at *
  generalize zmag b64 (val64 (FP.ddiv x y)) = md at *
  generalize one64 = u at *
  have p1 : ((mx : Nat) : Int) * ((u : Nat) : Int) = ((mx * u : Nat) : Int) := (Int.natCast_mul ..).symm
  have p2 : ((mv : Nat) : Int) * ((my : Nat) : Int) = ((mv * my : Nat) : Int) := (Int.natCast_mul ..).symm
  have z1 : mv * my = 0 → mv = 0 := fun q => by rcases Nat.mul_eq_zero.mp q with q | q <;> omega
  generalize sgn (val64 x) = sx at h ⊢
  generalize sgn (val64 V) = sV at h ⊢
  cases sx <;> cases sV <;> simp only [signed, if_true, Bool.false_eq_true, if_false, Int.neg_mul, p1, p2, bne_self_eq_false, Bool.bne_false] at h ⊢
  · have := G (by omega); omega
  · omega
  · have := L (by omega); have := z1 (by omega); omega
  · have := L (by omega); omega
theorem own_bits_of_zv {x : UInt64} (hn : val64 x ≠ .nan) {V : UInt64} (hV : DFin V) (h : zv x = zv V) : DFin x := by
  have q := hV.zval_lt
  cases e : val64 x with
  | nan => exact absurd e hn
  | fin s c r => exact ⟨s, c, r, e⟩
  | inf s =>
    exfalso
    have a1 : (zv x).natAbs = zmag b64 (val64 x) := by unfold zv zval; cases sgn (val64 x) <;> simp [signed]
    have a2 : (zv V).natAbs = zmag b64 (val64 V) := by unfold zv zval; cases sgn (val64 V) <;> simp [signed]
    rw [h, a2, e] at a1
    rw [a1] at q
    exact Nat.lt_irrefl _ q
/-- every n / 2^k of at most 53 digits is a double -/
theorem own_rep (n : Int) (k : Nat) (h1 : n.natAbs < 9007199254740992) (hk : k ≤ 1074) : ∃ V : UInt64, DFin V ∧ zv V * ((2 ^ k : Nat) : Int) = n * uu := by
  obtain ⟨c', q', e1, e2⟩ := FP.Core.round_exact good_b64 (decide (n < 0)) (c := n.natAbs) (q := -(k : Int)) (by exact h1) (by rw [own_qm]; omega) (by have h971 : b64.qmax = 971 := (by decide); omega)
  have f := FP.Core.round_fits good_b64 (.fin (decide (n < 0)) n.natAbs (-(k : Int)))
  refine ⟨FP.Core.of64 (FP.Core.round b64 (.fin (decide (n < 0)) n.natAbs (-(k : Int)))), ⟨decide (n < 0), c', q', by rw [FP.Core.val64_of64 f, e1]⟩, ?_⟩
  unfold zv
  rw [FP.Core.val64_of64 f, e1]
  show signed (decide (n < 0)) (inUnits c' q' b64.qmin) * _ = _
  rw [e2]
  unfold inUnits
  rw [FP.Core.signed_mul, Int.mul_assoc, ← Int.natCast_mul, ← Nat.pow_add, show (-(k : Int) - b64.qmin).toNat + k = 1074 by rw [own_qm]; omega]
  have s0 : signed (decide (n < 0)) n.natAbs = n := by
    unfold signed
    by_cases q : n < 0 <;> simp [q] <;> omega
  rw [s0]; rfl
/-- x is the number n / 2^k -/
def Dy (x : UInt64) (n : Int) (k : Nat) : Prop := DFin x ∧ zv x * ((2 ^ k : Nat) : Int) = n * uu
theorem Dy.fin {x : UInt64} {n : Int} {k : Nat} (D : Dy x n k) : DFin x := D.1
theorem Dy.nn {x : UInt64} {n : Int} {k : Nat} (D : Dy x n k) : NoNaN64 x := Fl.val64_no.mpr D.1.ne_nan
theorem own_pk (k : Nat) : 0 < ((2 ^ k : Nat) : Int) := by have := Nat.two_pow_pos k; omega
theorem own_mid {a b c d : Int} {k : Nat} (h1 : a * ((2 ^ k : Nat) : Int) = c) (h2 : b * ((2 ^ k : Nat) : Int) = d) : (a ≤ b ↔ c ≤ d) ∧ (a < b ↔ c < d) ∧ (a = b ↔ c = d) := by
  have p := own_pk k
  subst h1 h2
  generalize ((2 ^ k : Nat) : Int) = w at *
  exact ⟨(Int.mul_le_mul_right p).symm, (Int.mul_lt_mul_right p).symm, ⟨fun q => by rw [q], fun q => Int.eq_of_mul_eq_mul_right (by omega) q⟩⟩
theorem Dy.cmp {x y : UInt64} {n m : Int} {k : Nat} (A : Dy x n k) (B : Dy y m k) : FP.dcmp x y = some (compare n m) := by
  show FP.Core.dcmp x y = _
  rw [FP.Core.dcmp_zval A.1.ne_nan B.1.ne_nan]
  congr 1
  obtain ⟨-, q2, q3⟩ := own_mid A.2 B.2
  have u := uu_pos
  refine FP.Core.compare_congr (q2.trans ⟨fun q => ?_, fun q => Int.mul_lt_mul_of_pos_right q u⟩) (q3.trans ⟨fun q => Int.eq_of_mul_eq_mul_right (by omega) q, fun q => by rw [q]⟩)
  exact Int.lt_of_mul_lt_mul_right q (Int.le_of_lt u)
theorem Dy.lt {x y : UInt64} {n m : Int} {k : Nat} (A : Dy x n k) (B : Dy y m k) : FP.dcmp x y = some .lt ↔ n < m := by
  rw [A.cmp B, Option.some.injEq, FP.Core.compare_lt_iff]
theorem Dy.gt {x y : UInt64} {n m : Int} {k : Nat} (A : Dy x n k) (B : Dy y m k) : FP.dcmp x y = some .gt ↔ m < n := by
  rw [A.cmp B, Option.some.injEq, FP.Core.compare_gt_iff]
theorem Dy.eq {x y : UInt64} {n m : Int} {k : Nat} (A : Dy x n k) (B : Dy y m k) : FP.dcmp x y = some .eq ↔ n = m := by
  rw [A.cmp B, Option.some.injEq, FP.Core.compare_eq_iff]
theorem Dy.of_zv {x V : UInt64} {n : Int} {k : Nat} (hn : val64 x ≠ .nan) (hV : DFin V) (e : zv V * ((2 ^ k : Nat) : Int) = n * uu) (h1 : zv x ≤ zv V) (h2 : zv V ≤ zv x) : Dy x n k := by
  have q : zv x = zv V := by omega
  exact ⟨own_bits_of_zv hn hV q, by rw [q]; exact e⟩
theorem own_nn_add {x y : UInt64} (hx : DFin x) (hy : DFin y) : val64 (FP.dadd x y) ≠ .nan := Fl.val64_no.mp (Fl.noNaN64_no.mpr (FP.Core.dadd_out hx.notNaN hy))
theorem own_nn_sub {x y : UInt64} (hx : DFin x) (hy : DFin y) : val64 (FP.dsub x y) ≠ .nan := Fl.val64_no.mp (Fl.noNaN64_no.mpr (FP.Core.dsub_out hx.notNaN hy))
theorem own_nn_mul {x y : UInt64} (hx : DFin x) (hy : DFin y) : val64 (FP.dmul x y) ≠ .nan := Fl.val64_no.mp (Fl.noNaN64_no.mpr (FP.Core.dmul_out hx hy))
theorem own_nn_div {x y : UInt64} (hx : DFin x) (hy : DFin y) (hz : ¬ DZero y) : val64 (FP.ddiv x y) ≠ .nan := Fl.val64_no.mp (Fl.noNaN64_no.mpr (FP.Core.ddiv_out hx.notNaN hy hz))
theorem Dy.add {x y : UInt64} {n m : Int} {k : Nat} (A : Dy x n k) (B : Dy y m k) (hb : (n + m).natAbs < 9007199254740992) (hk : k ≤ 1074) : Dy (FP.dadd x y) (n + m) k := by
  obtain ⟨V, fV, eV⟩ := own_rep (n + m) k hb hk
  have e : (zv x + zv y) * ((2 ^ k : Nat) : Int) = (n + m) * uu := by rw [Int.add_mul, A.2, B.2, Int.add_mul]
  obtain ⟨-, -, q⟩ := own_mid e eV
  have q := q.mpr rfl
  exact Dy.of_zv (own_nn_add A.1 B.1) fV eV (own_add_le A.1 B.1 fV.ne_nan (by omega)) (own_add_ge A.1 B.1 fV.ne_nan (by omega))
theorem Dy.sub {x y : UInt64} {n m : Int} {k : Nat} (A : Dy x n k) (B : Dy y m k) (hb : (n - m).natAbs < 9007199254740992) (hk : k ≤ 1074) : Dy (FP.dsub x y) (n - m) k := by
  obtain ⟨V, fV, eV⟩ := own_rep (n - m) k hb hk
  have e : (zv x - zv y) * ((2 ^ k : Nat) : Int) = (n - m) * uu := by rw [Int.sub_mul, A.2, B.2, Int.sub_mul]
  obtain ⟨-, -, q⟩ := own_mid e eV
  have q := q.mpr rfl
  exact Dy.of_zv (own_nn_sub A.1 B.1) fV eV (own_sub_le A.1 B.1 fV.ne_nan (by omega)) (own_sub_ge A.1 B.1 fV.ne_nan (by omega))
theorem own_alg1 {X Y K J n m u : Int} (a : X * K = n * u) (b : Y * J = m * u) : X * Y * (K * J) = n * m * u * u := by
  calc X * Y * (K * J) = (X * K) * (Y * J) := by ac_rfl
    _ = (n * u) * (m * u) := by rw [a, b]
    _ = n * m * u * u := by ac_rfl
theorem own_alg2 {V K N u : Int} (e : V * K = N * u) : V * u * K = N * u * u := by
  calc V * u * K = V * K * u := by ac_rfl
    _ = N * u * u := by rw [e]
theorem own_alg3 {X Y V K J I n m r u : Int} (a : X * K = n * u) (b : Y * J = m * u) (e : V * I = r * u) : X * u * (K * (J * I)) = n * (J * I) * (u * u) ∧ V * Y * (K * (J * I)) = r * m * K * (u * u) := by
  constructor
  · calc X * u * (K * (J * I)) = (X * K) * u * (J * I) := by ac_rfl
      _ = n * u * u * (J * I) := by rw [a]
      _ = n * (J * I) * (u * u) := by ac_rfl
  · calc V * Y * (K * (J * I)) = (V * I) * (Y * J) * K := by ac_rfl
      _ = (r * u) * (m * u) * K := by rw [e, b]
      _ = r * m * K * (u * u) := by ac_rfl
theorem Dy.mul {x y : UInt64} {n m : Int} {k j : Nat} (A : Dy x n k) (B : Dy y m j) (hb : (n * m).natAbs < 9007199254740992) (hk : k + j ≤ 1074) : Dy (FP.dmul x y) (n * m) (k + j) := by
  obtain ⟨V, fV, eV⟩ := own_rep (n * m) (k + j) hb hk
  have e : (zv x * zv y) * ((2 ^ (k + j) : Nat) : Int) = (n * m) * uu * uu := by
    rw [Nat.pow_add, Int.natCast_mul]; exact own_alg1 A.2 B.2
  have e' : (zv V * uu) * ((2 ^ (k + j) : Nat) : Int) = (n * m) * uu * uu := own_alg2 eV
  obtain ⟨-, -, q⟩ := own_mid e e'
  have q := q.mpr rfl
  exact Dy.of_zv (own_nn_mul A.1 B.1) fV eV (own_mul_le A.1 B.1 fV.ne_nan (by omega)) (own_mul_ge A.1 B.1 fV.ne_nan (by omega))
theorem Dy.pos {y : UInt64} {m : Int} {j : Nat} (B : Dy y m j) (hm : 0 < m) : 0 < zv y := by
  have p := own_pk j
  have b := B.2
  have : 0 < m * uu := Int.mul_pos hm uu_pos
  rw [← b] at this
  exact Int.lt_of_mul_lt_mul_right (by rw [Int.zero_mul]; exact this) (Int.le_of_lt p)
/-- an exact quotient -/
theorem Dy.div {x y : UInt64} {n m r : Int} {k j i : Nat} (A : Dy x n k) (B : Dy y m j) (hm : 0 < m) (hq : n * ((2 ^ (j + i) : Nat) : Int) = r * m * ((2 ^ k : Nat) : Int)) (hb : r.natAbs < 9007199254740992) (hi : i ≤ 1074) : Dy (FP.ddiv x y) r i := by
  obtain ⟨V, fV, eV⟩ := own_rep r i hb hi
  have h0 := B.pos hm
  have e : zv x * uu = zv V * zv y := by
    have pk := own_pk k; have pj := own_pk j; have pi := own_pk i
    rw [Nat.pow_add, Int.natCast_mul] at hq
    obtain ⟨a1, a2⟩ := own_alg3 A.2 B.2 eV
    refine Int.eq_of_mul_eq_mul_right (a := ((2 ^ k : Nat) : Int) * (((2 ^ j : Nat) : Int) * ((2 ^ i : Nat) : Int))) (Int.ne_of_gt (Int.mul_pos pk (Int.mul_pos pj pi))) ?_
    rw [a1, a2, hq]
  exact Dy.of_zv (own_nn_div A.1 B.1 (own_notz B.1 h0)) fV eV (own_div_le A.1 B.1 h0 fV.ne_nan (by omega)) (own_div_ge A.1 B.1 h0 fV.ne_nan (by omega))
theorem Dy.up {x : UInt64} {n : Int} {k : Nat} (A : Dy x n k) (j : Nat) : Dy x (n * ((2 ^ j : Nat) : Int)) (k + j) := by
  refine ⟨A.1, ?_⟩
  rw [Nat.pow_add, Int.natCast_mul, ← Int.mul_assoc, A.2]; exact Int.mul_right_comm _ _ _
theorem Dy.to {x : UInt64} {n n' : Int} {k : Nat} (A : Dy x n k) (e : n = n') : Dy x n' k := e ▸ A
theorem own_dy_int {x : UInt64} {i : Int} (h : FP.Core.DInt i x) : Dy x i 0 := by
  have z := FP.Core.DInt_zval h
  have n := FP.Core.DInt_ne_nan h
  refine ⟨?_, by rw [show ((2 ^ 0 : Nat) : Int) = 1 from rfl, Int.mul_one]; exact z⟩
  unfold FP.Core.DInt at h
  cases e : val64 x with
  | nan => exact absurd e n
  | inf s => rw [e] at h; exact h.elim
  | fin s c q => exact ⟨s, c, q, e⟩
theorem dy_i2d (a : Int32) : Dy (FP.i2d a) a.toInt 0 := own_dy_int (FP.Core.i2d_int a)
theorem dy_l2d {a : Int64} (h1 : -9007199254740992 < a.toInt) (h2 : a.toInt < 9007199254740992) : Dy (FP.l2d a) a.toInt 0 := own_dy_int (FP.Core.l2d_whole ⟨h1, h2⟩)
/-- 0.0 + x is x, bit for bit, for a finite x that isn't -0.0 -/
theorem own_zero_add {x : UInt64} {s : Bool} {c : Nat} {q : Int} (hx : val64 x = .fin s c q) (h0 : c = 0 → s = false) : FP.dadd 0 x = x := by
  show FP.Core.dadd 0 x = x
  have fx := val64_fits x
  rw [hx] at fx
  have hq := fx.2.1
  have key : val64 (FP.Core.dadd 0 x) = .fin s c q := by
    rw [FP.Core.val64_dadd, FP.Core.val64_zero, hx]
    have m : min b64.qmin q = b64.qmin := by omega
    have u : FP.Core.sumUnits false 0 b64.qmin s c q b64.qmin = signed s (inUnits c q b64.qmin) := by
      unfold FP.Core.sumUnits; simp [signed, inUnits]
    show FP.Core.roundRatio b64 (FP.Core.sumSign false s (FP.Core.sumUnits false 0 b64.qmin s c q (min b64.qmin q))) (FP.Core.sumUnits false 0 b64.qmin s c q (min b64.qmin q)).natAbs 1 (min b64.qmin q) = _
    rw [m, u]
    have na : (signed s (inUnits c q b64.qmin)).natAbs = inUnits c q b64.qmin := by unfold signed; cases s <;> simp
    have sg : FP.Core.sumSign false s (signed s (inUnits c q b64.qmin)) = s := by
      have pp := Nat.two_pow_pos (q - b64.qmin).toNat
      unfold FP.Core.sumSign
      by_cases c0 : c = 0
      · subst c0; simp [signed, inUnits, h0 rfl]
      · have : 0 < inUnits c q b64.qmin := Nat.mul_pos (Nat.pos_of_ne_zero c0) pp
        cases s <;> simp [signed] <;> omega
    rw [na, sg]
    refine FP.Core.roundRatio_exact good_b64 (by decide) fx ?_
    rw [show (b64.qmin - q).toNat = 0 by omega, Nat.pow_zero, Nat.mul_one, Nat.mul_one]; rfl
  exact FP.Core.val64_inj (by rw [key]; exact FP.Core.Datum.noConfusion) (key.trans hx.symm)
theorem own_scale3 {X Y n m r : Int} {k j i : Nat} {V : Int} (a : X * ((2 ^ k : Nat) : Int) = n * uu) (b : Y * ((2 ^ j : Nat) : Int) = m * uu) (e : V * ((2 ^ i : Nat) : Int) = r * uu) :
    X * uu * (((2 ^ k : Nat) : Int) * (((2 ^ j : Nat) : Int) * ((2 ^ i : Nat) : Int))) = n * ((2 ^ (j + i) : Nat) : Int) * (uu * uu) ∧ V * Y * (((2 ^ k : Nat) : Int) * (((2 ^ j : Nat) : Int) * ((2 ^ i : Nat) : Int))) = r * m * ((2 ^ k : Nat) : Int) * (uu * uu) := by
  rw [Nat.pow_add, Int.natCast_mul]; exact own_alg3 a b e
theorem Dy.div_le {x y V : UInt64} {n m r : Int} {k j i : Nat} (A : Dy x n k) (B : Dy y m j) (hm : 0 < m) (C : Dy V r i) (h : n * ((2 ^ (j + i) : Nat) : Int) ≤ r * m * ((2 ^ k : Nat) : Int)) : zv (FP.ddiv x y) ≤ zv V := by
  refine own_div_le A.1 B.1 (B.pos hm) C.1.ne_nan ?_
  obtain ⟨e1, e2⟩ := own_scale3 A.2 B.2 C.2
  have p : 0 < ((2 ^ k : Nat) : Int) * (((2 ^ j : Nat) : Int) * ((2 ^ i : Nat) : Int)) := Int.mul_pos (own_pk k) (Int.mul_pos (own_pk j) (own_pk i))
  refine Int.le_of_mul_le_mul_right ?_ p
  rw [e1, e2]
  exact Int.mul_le_mul_of_nonneg_right h (Int.le_of_lt (Int.mul_pos uu_pos uu_pos))
theorem Dy.div_ge {x y V : UInt64} {n m r : Int} {k j i : Nat} (A : Dy x n k) (B : Dy y m j) (hm : 0 < m) (C : Dy V r i) (h : r * m * ((2 ^ k : Nat) : Int) ≤ n * ((2 ^ (j + i) : Nat) : Int)) : zv V ≤ zv (FP.ddiv x y) := by
  refine own_div_ge A.1 B.1 (B.pos hm) C.1.ne_nan ?_
  obtain ⟨e1, e2⟩ := own_scale3 A.2 B.2 C.2
  have p : 0 < ((2 ^ k : Nat) : Int) * (((2 ^ j : Nat) : Int) * ((2 ^ i : Nat) : Int)) := Int.mul_pos (own_pk k) (Int.mul_pos (own_pk j) (own_pk i))
  refine Int.le_of_mul_le_mul_right ?_ p
  rw [e1, e2]
  exact Int.mul_le_mul_of_nonneg_right h (Int.le_of_lt (Int.mul_pos uu_pos uu_pos))
/-- the order of two numbers written over one power of two -/
theorem Dy.zle {x y : UInt64} {n m : Int} {k : Nat} (A : Dy x n k) (B : Dy y m k) : (zv x ≤ zv y ↔ n ≤ m) ∧ (zv x < zv y ↔ n < m) := by
  obtain ⟨q1, q2, -⟩ := own_mid A.2 B.2
  have u := uu_pos
  exact ⟨q1.trans ⟨fun q => Int.le_of_mul_le_mul_right q u, fun q => Int.mul_le_mul_of_nonneg_right q (Int.le_of_lt u)⟩, q2.trans ⟨fun q => Int.lt_of_mul_lt_mul_right q (Int.le_of_lt u), fun q => Int.mul_lt_mul_of_pos_right q u⟩⟩
end OwnF
theorem pn_com_example_cross_town_crosstown_solve_NodeHeapIsEmptyPinLaw : plainName "com/example/cross_town/crosstown/solve/NodeHeapIsEmptyPinLaw" = true := by first | (simp [plainName, overriddenIn]; done) | decide +kernel
theorem pn_com_example_cross_town_crosstown_solve_NodeHeap : plainName "com/example/cross_town/crosstown/solve/NodeHeap" = true := by first | (simp [plainName, overriddenIn]; done) | decide +kernel
theorem pn_java_util_Arrays : plainName "java/util/Arrays" = true := by first | (simp [plainName, overriddenIn]; done) | decide +kernel
theorem d1_0 : decode prog_33_method_1_code 0 = .ok (.aload_n 0, 1) := by decide +kernel
theorem d1_1 : decode prog_33_method_1_code 1 = .ok (.invokespecial 1, 3) := by decide +kernel
theorem d1_4 : decode prog_33_method_1_code 4 = .ok (.aload_n 0, 1) := by decide +kernel
theorem d1_5 : decode prog_33_method_1_code 5 = .ok (.iload_n 1, 1) := by decide +kernel
theorem d1_6 : decode prog_33_method_1_code 6 = .ok (.newarray .int, 2) := by decide +kernel
theorem d1_8 : decode prog_33_method_1_code 8 = .ok (.putfield 7, 3) := by decide +kernel
theorem d1_11 : decode prog_33_method_1_code 11 = .ok (.aload_n 0, 1) := by decide +kernel
theorem d1_12 : decode prog_33_method_1_code 12 = .ok (.iload_n 1, 1) := by decide +kernel
theorem d1_13 : decode prog_33_method_1_code 13 = .ok (.newarray .int, 2) := by decide +kernel
theorem d1_15 : decode prog_33_method_1_code 15 = .ok (.putfield 13, 3) := by decide +kernel
theorem d1_18 : decode prog_33_method_1_code 18 = .ok (.aload_n 0, 1) := by decide +kernel
theorem d1_19 : decode prog_33_method_1_code 19 = .ok (.iload_n 1, 1) := by decide +kernel
theorem d1_20 : decode prog_33_method_1_code 20 = .ok (.newarray .double, 2) := by decide +kernel
theorem d1_22 : decode prog_33_method_1_code 22 = .ok (.putfield 16, 3) := by decide +kernel
theorem d1_25 : decode prog_33_method_1_code 25 = .ok (.aload_n 0, 1) := by decide +kernel
theorem d1_26 : decode prog_33_method_1_code 26 = .ok (.getfield 13, 3) := by decide +kernel
theorem d1_29 : decode prog_33_method_1_code 29 = .ok (.iconst (-1), 1) := by decide +kernel
theorem d1_30 : decode prog_33_method_1_code 30 = .ok (.invokestatic 20, 3) := by decide +kernel
theorem d1_33 : decode prog_33_method_1_code 33 = .ok (.return_, 1) := by decide +kernel
theorem d3_0 : decode jdk_65_method_103_code 0 = .ok (.iconst 0, 1) := by decide +kernel
theorem d3_1 : decode jdk_65_method_103_code 1 = .ok (.istore_n 2, 1) := by decide +kernel
theorem d3_2 : decode jdk_65_method_103_code 2 = .ok (.aload_n 0, 1) := by decide +kernel
theorem d3_3 : decode jdk_65_method_103_code 3 = .ok (.arraylength, 1) := by decide +kernel
theorem d3_4 : decode jdk_65_method_103_code 4 = .ok (.istore_n 3, 1) := by decide +kernel
theorem d3_5 : decode jdk_65_method_103_code 5 = .ok (.iload_n 2, 1) := by decide +kernel
theorem d3_6 : decode jdk_65_method_103_code 6 = .ok (.iload_n 3, 1) := by decide +kernel
theorem d3_7 : decode jdk_65_method_103_code 7 = .ok (.if_icmp .ge 13, 3) := by decide +kernel
theorem d3_10 : decode jdk_65_method_103_code 10 = .ok (.aload_n 0, 1) := by decide +kernel
theorem d3_11 : decode jdk_65_method_103_code 11 = .ok (.iload_n 2, 1) := by decide +kernel
theorem d3_12 : decode jdk_65_method_103_code 12 = .ok (.iload_n 1, 1) := by decide +kernel
theorem d3_13 : decode jdk_65_method_103_code 13 = .ok (.iastore, 1) := by decide +kernel
theorem d3_14 : decode jdk_65_method_103_code 14 = .ok (.iinc 2 1, 3) := by decide +kernel
theorem d3_17 : decode jdk_65_method_103_code 17 = .ok (.goto (-12), 3) := by decide +kernel
theorem d3_20 : decode jdk_65_method_103_code 20 = .ok (.return_, 1) := by decide +kernel
theorem d4_0 : decode prog_33_method_2_code 0 = .ok (.aload_n 0, 1) := by decide +kernel
theorem d4_1 : decode prog_33_method_2_code 1 = .ok (.getfield 26, 3) := by decide +kernel
theorem d4_4 : decode prog_33_method_2_code 4 = .ok (.ifCond .ne 7, 3) := by decide +kernel
theorem d4_7 : decode prog_33_method_2_code 7 = .ok (.iconst 1, 1) := by decide +kernel
theorem d4_8 : decode prog_33_method_2_code 8 = .ok (.goto 4, 3) := by decide +kernel
theorem d4_11 : decode prog_33_method_2_code 11 = .ok (.iconst 0, 1) := by decide +kernel
theorem d4_12 : decode prog_33_method_2_code 12 = .ok (.ireturn, 1) := by decide +kernel
theorem d5_0 : decode prog_33_method_3_code 0 = .ok (.aload_n 0, 1) := by decide +kernel
theorem d5_1 : decode prog_33_method_3_code 1 = .ok (.getfield 13, 3) := by decide +kernel
theorem d5_4 : decode prog_33_method_3_code 4 = .ok (.iload_n 1, 1) := by decide +kernel
theorem d5_5 : decode prog_33_method_3_code 5 = .ok (.iaload, 1) := by decide +kernel
theorem d5_6 : decode prog_33_method_3_code 6 = .ok (.istore 4, 2) := by decide +kernel
theorem d5_8 : decode prog_33_method_3_code 8 = .ok (.iload 4, 2) := by decide +kernel
theorem d5_10 : decode prog_33_method_3_code 10 = .ok (.iconst (-1), 1) := by decide +kernel
theorem d5_11 : decode prog_33_method_3_code 11 = .ok (.if_icmp .ne 19, 3) := by decide +kernel
theorem d5_14 : decode prog_33_method_3_code 14 = .ok (.aload_n 0, 1) := by decide +kernel
theorem d5_15 : decode prog_33_method_3_code 15 = .ok (.getfield 26, 3) := by decide +kernel
theorem d5_18 : decode prog_33_method_3_code 18 = .ok (.istore 4, 2) := by decide +kernel
theorem d5_20 : decode prog_33_method_3_code 20 = .ok (.aload_n 0, 1) := by decide +kernel
theorem d5_21 : decode prog_33_method_3_code 21 = .ok (.dup, 1) := by decide +kernel
theorem d5_22 : decode prog_33_method_3_code 22 = .ok (.getfield 26, 3) := by decide +kernel
theorem d5_25 : decode prog_33_method_3_code 25 = .ok (.iconst 1, 1) := by decide +kernel
theorem d5_26 : decode prog_33_method_3_code 26 = .ok (.iadd, 1) := by decide +kernel
theorem d5_27 : decode prog_33_method_3_code 27 = .ok (.putfield 26, 3) := by decide +kernel
theorem d5_30 : decode prog_33_method_3_code 30 = .ok (.aload_n 0, 1) := by decide +kernel
theorem d5_31 : decode prog_33_method_3_code 31 = .ok (.getfield 16, 3) := by decide +kernel
theorem d5_34 : decode prog_33_method_3_code 34 = .ok (.iload_n 1, 1) := by decide +kernel
theorem d5_35 : decode prog_33_method_3_code 35 = .ok (.dload_n 2, 1) := by decide +kernel
theorem d5_36 : decode prog_33_method_3_code 36 = .ok (.dastore, 1) := by decide +kernel
theorem d5_37 : decode prog_33_method_3_code 37 = .ok (.aload_n 0, 1) := by decide +kernel
theorem d5_38 : decode prog_33_method_3_code 38 = .ok (.iload 4, 2) := by decide +kernel
theorem d5_40 : decode prog_33_method_3_code 40 = .ok (.iload_n 1, 1) := by decide +kernel
theorem d5_41 : decode prog_33_method_3_code 41 = .ok (.invokevirtual 30, 3) := by decide +kernel
theorem d5_44 : decode prog_33_method_3_code 44 = .ok (.return_, 1) := by decide +kernel
theorem d6_0 : decode prog_33_method_5_code 0 = .ok (.iload_n 1, 1) := by decide +kernel
theorem d6_1 : decode prog_33_method_5_code 1 = .ok (.istore_n 3, 1) := by decide +kernel
theorem d6_2 : decode prog_33_method_5_code 2 = .ok (.iload_n 3, 1) := by decide +kernel
theorem d6_3 : decode prog_33_method_5_code 3 = .ok (.ifCond .le 53, 3) := by decide +kernel
theorem d6_6 : decode prog_33_method_5_code 6 = .ok (.iload_n 3, 1) := by decide +kernel
theorem d6_7 : decode prog_33_method_5_code 7 = .ok (.iconst 1, 1) := by decide +kernel
theorem d6_8 : decode prog_33_method_5_code 8 = .ok (.isub, 1) := by decide +kernel
theorem d6_9 : decode prog_33_method_5_code 9 = .ok (.iconst 2, 1) := by decide +kernel
theorem d6_10 : decode prog_33_method_5_code 10 = .ok (.idiv, 1) := by decide +kernel
theorem d6_11 : decode prog_33_method_5_code 11 = .ok (.istore 4, 2) := by decide +kernel
theorem d6_13 : decode prog_33_method_5_code 13 = .ok (.aload_n 0, 1) := by decide +kernel
theorem d6_14 : decode prog_33_method_5_code 14 = .ok (.getfield 16, 3) := by decide +kernel
theorem d6_17 : decode prog_33_method_5_code 17 = .ok (.aload_n 0, 1) := by decide +kernel
theorem d6_18 : decode prog_33_method_5_code 18 = .ok (.getfield 7, 3) := by decide +kernel
theorem d6_21 : decode prog_33_method_5_code 21 = .ok (.iload 4, 2) := by decide +kernel
theorem d6_23 : decode prog_33_method_5_code 23 = .ok (.iaload, 1) := by decide +kernel
theorem d6_24 : decode prog_33_method_5_code 24 = .ok (.daload, 1) := by decide +kernel
theorem d6_25 : decode prog_33_method_5_code 25 = .ok (.aload_n 0, 1) := by decide +kernel
theorem d6_26 : decode prog_33_method_5_code 26 = .ok (.getfield 16, 3) := by decide +kernel
theorem d6_29 : decode prog_33_method_5_code 29 = .ok (.iload_n 2, 1) := by decide +kernel
theorem d6_30 : decode prog_33_method_5_code 30 = .ok (.daload, 1) := by decide +kernel
theorem d6_31 : decode prog_33_method_5_code 31 = .ok (.dcmp .g, 1) := by decide +kernel
theorem d6_32 : decode prog_33_method_5_code 32 = .ok (.ifCond .gt 6, 3) := by decide +kernel
theorem d6_35 : decode prog_33_method_5_code 35 = .ok (.goto 21, 3) := by decide +kernel
theorem d6_38 : decode prog_33_method_5_code 38 = .ok (.aload_n 0, 1) := by decide +kernel
theorem d6_39 : decode prog_33_method_5_code 39 = .ok (.iload_n 3, 1) := by decide +kernel
theorem d6_40 : decode prog_33_method_5_code 40 = .ok (.aload_n 0, 1) := by decide +kernel
theorem d6_41 : decode prog_33_method_5_code 41 = .ok (.getfield 7, 3) := by decide +kernel
theorem d6_44 : decode prog_33_method_5_code 44 = .ok (.iload 4, 2) := by decide +kernel
theorem d6_46 : decode prog_33_method_5_code 46 = .ok (.iaload, 1) := by decide +kernel
theorem d6_47 : decode prog_33_method_5_code 47 = .ok (.invokevirtual 37, 3) := by decide +kernel
theorem d6_50 : decode prog_33_method_5_code 50 = .ok (.iload 4, 2) := by decide +kernel
theorem d6_52 : decode prog_33_method_5_code 52 = .ok (.istore_n 3, 1) := by decide +kernel
theorem d6_53 : decode prog_33_method_5_code 53 = .ok (.goto (-51), 3) := by decide +kernel
theorem d6_56 : decode prog_33_method_5_code 56 = .ok (.aload_n 0, 1) := by decide +kernel
theorem d6_57 : decode prog_33_method_5_code 57 = .ok (.iload_n 3, 1) := by decide +kernel
theorem d6_58 : decode prog_33_method_5_code 58 = .ok (.iload_n 2, 1) := by decide +kernel
theorem d6_59 : decode prog_33_method_5_code 59 = .ok (.invokevirtual 37, 3) := by decide +kernel
theorem d6_62 : decode prog_33_method_5_code 62 = .ok (.return_, 1) := by decide +kernel
theorem d7_0 : decode prog_33_method_7_code 0 = .ok (.aload_n 0, 1) := by decide +kernel
theorem d7_1 : decode prog_33_method_7_code 1 = .ok (.getfield 7, 3) := by decide +kernel
theorem d7_4 : decode prog_33_method_7_code 4 = .ok (.iload_n 1, 1) := by decide +kernel
theorem d7_5 : decode prog_33_method_7_code 5 = .ok (.iload_n 2, 1) := by decide +kernel
theorem d7_6 : decode prog_33_method_7_code 6 = .ok (.iastore, 1) := by decide +kernel
theorem d7_7 : decode prog_33_method_7_code 7 = .ok (.aload_n 0, 1) := by decide +kernel
theorem d7_8 : decode prog_33_method_7_code 8 = .ok (.getfield 13, 3) := by decide +kernel
theorem d7_11 : decode prog_33_method_7_code 11 = .ok (.iload_n 2, 1) := by decide +kernel
theorem d7_12 : decode prog_33_method_7_code 12 = .ok (.iload_n 1, 1) := by decide +kernel
theorem d7_13 : decode prog_33_method_7_code 13 = .ok (.iastore, 1) := by decide +kernel
theorem d7_14 : decode prog_33_method_7_code 14 = .ok (.return_, 1) := by decide +kernel
theorem d8_0 : decode prog_33_method_4_code 0 = .ok (.aload_n 0, 1) := by decide +kernel
theorem d8_1 : decode prog_33_method_4_code 1 = .ok (.getfield 7, 3) := by decide +kernel
theorem d8_4 : decode prog_33_method_4_code 4 = .ok (.iconst 0, 1) := by decide +kernel
theorem d8_5 : decode prog_33_method_4_code 5 = .ok (.iaload, 1) := by decide +kernel
theorem d8_6 : decode prog_33_method_4_code 6 = .ok (.istore_n 1, 1) := by decide +kernel
theorem d8_7 : decode prog_33_method_4_code 7 = .ok (.aload_n 0, 1) := by decide +kernel
theorem d8_8 : decode prog_33_method_4_code 8 = .ok (.getfield 13, 3) := by decide +kernel
theorem d8_11 : decode prog_33_method_4_code 11 = .ok (.iload_n 1, 1) := by decide +kernel
theorem d8_12 : decode prog_33_method_4_code 12 = .ok (.iconst (-1), 1) := by decide +kernel
theorem d8_13 : decode prog_33_method_4_code 13 = .ok (.iastore, 1) := by decide +kernel
theorem d8_14 : decode prog_33_method_4_code 14 = .ok (.aload_n 0, 1) := by decide +kernel
theorem d8_15 : decode prog_33_method_4_code 15 = .ok (.dup, 1) := by decide +kernel
theorem d8_16 : decode prog_33_method_4_code 16 = .ok (.getfield 26, 3) := by decide +kernel
theorem d8_19 : decode prog_33_method_4_code 19 = .ok (.iconst 1, 1) := by decide +kernel
theorem d8_20 : decode prog_33_method_4_code 20 = .ok (.isub, 1) := by decide +kernel
theorem d8_21 : decode prog_33_method_4_code 21 = .ok (.putfield 26, 3) := by decide +kernel
theorem d8_24 : decode prog_33_method_4_code 24 = .ok (.aload_n 0, 1) := by decide +kernel
theorem d8_25 : decode prog_33_method_4_code 25 = .ok (.getfield 26, 3) := by decide +kernel
theorem d8_28 : decode prog_33_method_4_code 28 = .ok (.ifCond .le 17, 3) := by decide +kernel
theorem d8_31 : decode prog_33_method_4_code 31 = .ok (.aload_n 0, 1) := by decide +kernel
theorem d8_32 : decode prog_33_method_4_code 32 = .ok (.iconst 0, 1) := by decide +kernel
theorem d8_33 : decode prog_33_method_4_code 33 = .ok (.aload_n 0, 1) := by decide +kernel
theorem d8_34 : decode prog_33_method_4_code 34 = .ok (.getfield 7, 3) := by decide +kernel
theorem d8_37 : decode prog_33_method_4_code 37 = .ok (.aload_n 0, 1) := by decide +kernel
theorem d8_38 : decode prog_33_method_4_code 38 = .ok (.getfield 26, 3) := by decide +kernel
theorem d8_41 : decode prog_33_method_4_code 41 = .ok (.iaload, 1) := by decide +kernel
theorem d8_42 : decode prog_33_method_4_code 42 = .ok (.invokevirtual 34, 3) := by decide +kernel
theorem d8_45 : decode prog_33_method_4_code 45 = .ok (.iload_n 1, 1) := by decide +kernel
theorem d8_46 : decode prog_33_method_4_code 46 = .ok (.ireturn, 1) := by decide +kernel
theorem d9_0 : decode prog_33_method_6_code 0 = .ok (.iload_n 1, 1) := by decide +kernel
theorem d9_1 : decode prog_33_method_6_code 1 = .ok (.istore_n 3, 1) := by decide +kernel
theorem d9_2 : decode prog_33_method_6_code 2 = .ok (.iconst 2, 1) := by decide +kernel
theorem d9_3 : decode prog_33_method_6_code 3 = .ok (.iload_n 3, 1) := by decide +kernel
theorem d9_4 : decode prog_33_method_6_code 4 = .ok (.imul, 1) := by decide +kernel
theorem d9_5 : decode prog_33_method_6_code 5 = .ok (.iconst 1, 1) := by decide +kernel
theorem d9_6 : decode prog_33_method_6_code 6 = .ok (.iadd, 1) := by decide +kernel
theorem d9_7 : decode prog_33_method_6_code 7 = .ok (.aload_n 0, 1) := by decide +kernel
theorem d9_8 : decode prog_33_method_6_code 8 = .ok (.getfield 26, 3) := by decide +kernel
theorem d9_11 : decode prog_33_method_6_code 11 = .ok (.if_icmp .ge 97, 3) := by decide +kernel
theorem d9_108 : decode prog_33_method_6_code 108 = .ok (.aload_n 0, 1) := by decide +kernel
theorem d9_109 : decode prog_33_method_6_code 109 = .ok (.iload_n 3, 1) := by decide +kernel
theorem d9_110 : decode prog_33_method_6_code 110 = .ok (.iload_n 2, 1) := by decide +kernel
theorem d9_111 : decode prog_33_method_6_code 111 = .ok (.invokevirtual 37, 3) := by decide +kernel
theorem d9_114 : decode prog_33_method_6_code 114 = .ok (.return_, 1) := by decide +kernel
theorem pd_0 : parseMethodDescriptor "([II)V" = some ⟨[(.array .int), .int], none⟩ := by decide +kernel
theorem pd_1 : parseMethodDescriptor "(II)V" = some ⟨[.int, .int], none⟩ := by decide +kernel
theorem pd_2 : parseMethodDescriptor "(I)V" = some ⟨[.int], none⟩ := by decide +kernel
theorem pd_3 : parseMethodDescriptor "()Z" = some ⟨[], some .boolean⟩ := by decide +kernel
theorem pd_4 : parseMethodDescriptor "(ID)V" = some ⟨[.int, .double], none⟩ := by decide +kernel
theorem pd_5 : parseMethodDescriptor "()I" = some ⟨[], some .int⟩ := by decide +kernel


/-- (x and the greatest int) % k lies between 0 and k - 1 -/
theorem own_idx (x y : Int32) (k : Int) (hy : y.toInt = k) (hk : 0 < k) : 0 ≤ ((x &&& (2147483647 : Int32)) % y).toInt ∧ ((x &&& (2147483647 : Int32)) % y).toInt < k := by
  have h := c_mask x 2147483647 31 (by decide) (by decide)
  have e : ((2 ^ 31 : Nat) : Int) = 2147483648 := by decide
  rw [e] at h
  have r := (c_irem (x &&& 2147483647) y k hy).1 (by omega)
  rw [r]
  exact ⟨Int.emod_nonneg _ (by omega), Int.emod_lt_of_pos _ hk⟩
theorem own_nonneg {i : Int32} (h : 0 ≤ i.toInt) : ¬ i < 0 := by
  rw [Int32.lt_iff_toInt_lt]; have : (0 : Int32).toInt = 0 := by decide
  omega
theorem own_pick {ds : List UInt64} {i : Int32} (h0 : 0 ≤ i.toInt) (h1 : i.toInt < ds.length) (hn : ∀ d ∈ ds, NoNaN64 d) : ∃ d, (ds.map Value.double)[i.toNatClampNeg]? = some (.double d) ∧ NoNaN64 d := by
  have hl : i.toNatClampNeg < ds.length := by show i.toInt.toNat < _; omega
  exact ⟨ds[i.toNatClampNeg], by rw [List.getElem?_map, List.getElem?_eq_getElem hl]; rfl, hn _ (List.getElem_mem hl)⟩

open Jvm.FP.Core (val64) in
/-- no key is a NaN -/
def NNk (K : List UInt64) : Prop := ∀ i : Nat, val64 (K.getD i 0) ≠ .nan
/-- a node's key and its place -/
def kv (K : List UInt64) (x : Int32) : Int := zv (K.getD x.toNatClampNeg 0)
def pv (P : List Int32) (x : Int32) : Int := (P.getD x.toNatClampNeg 0).toInt
theorem own_getD {α : Type} (L : List α) (i j : Nat) (v d : α) (hi : i < L.length) : (L.set i v).getD j d = if i = j then v else L.getD j d := by
  rw [List.getD_eq_getElem?_getD, List.getD_eq_getElem?_getD, List.getElem?_set]
  by_cases h : i = j
  · rw [if_pos h, if_pos h, if_pos (h ▸ hi)]; rfl
  · rw [if_neg h, if_neg h]
theorem own_same {x y : Int32} {N : Int} (hx : 0 ≤ x.toInt ∧ x.toInt < N) (hy : 0 ≤ y.toInt ∧ y.toInt < N) : x.toNatClampNeg = y.toNatClampNeg ↔ x.toInt = y.toInt := by
  show x.toInt.toNat = y.toInt.toNat ↔ _; omega
theorem own_pvs {P : List Int32} {x y v : Int32} {N : Int} {n : Nat} (hl : P.length = n) (hx : 0 ≤ x.toInt ∧ x.toInt < N) (hy : 0 ≤ y.toInt ∧ y.toInt < N) (e : N.toNat = n := by rfl) : pv (P.set x.toNatClampNeg v) y = if x.toInt = y.toInt then v.toInt else pv P y := by
  unfold pv
  rw [own_getD _ _ _ _ _ (own_rgl hx hl e)]
  by_cases h : x.toInt = y.toInt
  · rw [if_pos ((own_same hx hy).mpr h), if_pos h]
  · rw [if_neg (fun q => h ((own_same hx hy).mp q)), if_neg h]
theorem own_kvs {K : List UInt64} {x y : Int32} {v : UInt64} {N : Int} {n : Nat} (hl : K.length = n) (hx : 0 ≤ x.toInt ∧ x.toInt < N) (hy : 0 ≤ y.toInt ∧ y.toInt < N) (e : N.toNat = n := by rfl) : kv (K.set x.toNatClampNeg v) y = if x.toInt = y.toInt then zv v else kv K y := by
  unfold kv
  rw [own_getD _ _ _ _ _ (own_rgl hx hl e)]
  by_cases h : x.toInt = y.toInt
  · rw [if_pos ((own_same hx hy).mpr h), if_pos h]
  · rw [if_neg (fun q => h ((own_same hx hy).mp q)), if_neg h]
theorem own_nnk {K : List UInt64} {i : Nat} {v : UInt64} (h : NNk K) (hv : FP.Core.val64 v ≠ .nan) (hi : i < K.length) : NNk (K.set i v) := fun j => by
  rw [own_getD _ _ _ _ _ hi]
  by_cases q : i = j
  · rw [if_pos q]; exact hv
  · rw [if_neg q]; exact h j
theorem own_kle {K : List UInt64} (h : NNk K) (x y : Int32) : dle (K.getD x.toNatClampNeg 0) (K.getD y.toNatClampNeg 0) ↔ kv K x ≤ kv K y := by
  unfold dle kv
  have e := FP.Core.dcmp_zval (h x.toNatClampNeg) (h y.toNatClampNeg)
  have e' : FP.dcmp (K.getD x.toNatClampNeg 0) (K.getD y.toNatClampNeg 0) = _ := e
  rw [e', Option.some.injEq, Option.some.injEq, FP.Core.compare_lt_iff, FP.Core.compare_eq_iff]
  unfold zv; omega
theorem own_klt {K : List UInt64} (h : NNk K) (x y : Int32) : dlt (K.getD x.toNatClampNeg 0) (K.getD y.toNatClampNeg 0) ↔ kv K x < kv K y := by
  unfold dlt kv
  have e := FP.Core.dcmp_zval (h x.toNatClampNeg) (h y.toNatClampNeg)
  have e' : FP.dcmp (K.getD x.toNatClampNeg 0) (K.getD y.toNatClampNeg 0) = _ := e
  rw [e', Option.some.injEq, FP.Core.compare_lt_iff]
theorem own_pne {P : List Int32} {x y : Int32} {a b : Int} (h1 : pv P x = a) (h2 : pv P y = b) (h : a ≠ b) : ¬ x.toInt = y.toInt := fun q => h (by
  have e : x = y := Int32.toInt_inj.mp q
  rw [← h1, ← h2, e])

theorem own_pm {P : List Int32} {x i : Int32} {a : Int} (h : pv P x = a) (hi : i.toInt = a) : P.getD x.toNatClampNeg 0 = i := Int32.toInt_inj.mp (h.trans hi.symm)
abbrev Hp1 (a : Int32) (P : List Int32) (K : List UInt64) : Prop := (0 ≤ a.toInt ∧ a.toInt < 3) ∧ pv P a = 0
abbrev Hp2 (a b : Int32) (P : List Int32) (K : List UInt64) : Prop := (0 ≤ a.toInt ∧ a.toInt < 3) ∧ (0 ≤ b.toInt ∧ b.toInt < 3) ∧ pv P a = 0 ∧ pv P b = 1 ∧ kv K a ≤ kv K b
abbrev Hp3 (a b c : Int32) (P : List Int32) (K : List UInt64) : Prop := (0 ≤ a.toInt ∧ a.toInt < 3) ∧ (0 ≤ b.toInt ∧ b.toInt < 3) ∧ (0 ≤ c.toInt ∧ c.toInt < 3) ∧ pv P a = 0 ∧ pv P b = 1 ∧ pv P c = 2 ∧ kv K a ≤ kv K b ∧ kv K a ≤ kv K c

theorem own_pv0 {x : Int32} (h : 0 ≤ x.toInt ∧ x.toInt < 3) : pv [(-1 : Int32), (-1 : Int32), (-1 : Int32)] x = -1 := by
  have : x.toInt = 0 ∨ x.toInt = 1 ∨ x.toInt = 2 := by omega
  unfold pv
  show (([(-1 : Int32), (-1 : Int32), (-1 : Int32)]).getD x.toInt.toNat 0).toInt = -1
  rcases this with e | e | e <;> rw [e] <;> rfl
theorem own_nk0 : NNk [(0 : UInt64), (0 : UInt64), (0 : UInt64)] := fun i => by
  have z : FP.Core.val64 0 ≠ .nan := by rw [FP.Core.val64_zero]; exact FP.Core.Datum.noConfusion
  match i with
  | 0 => exact z
  | 1 => exact z
  | 2 => exact z
  | _ + 3 => exact z
theorem own_m255 (x : Int32) : 0 ≤ (x &&& (255 : Int32)).toInt ∧ (x &&& (255 : Int32)).toInt < 256 := by
  have h := c_mask x 255 8 (by decide) (by decide)
  have e : ((2 ^ 8 : Nat) : Int) = 256 := by decide
  rw [e] at h; omega
theorem own_m7 (x : Int32) : 0 ≤ (x &&& (7 : Int32)).toInt ∧ (x &&& (7 : Int32)).toInt < 8 := by
  have h := c_mask x 7 3 (by decide) (by decide)
  have e : ((2 ^ 3 : Nat) : Int) = 8 := by decide
  rw [e] at h; omega

theorem ef3 (m : MethodId) (x0 : Addr) : entryFrame m #[(.ref x0), (.int (-1 : Int32))] 4 = mkF m 0 #[.val (.ref x0), .val (.int (-1 : Int32)), .unset, .unset] [] := by first | (simp [entryFrame, mkF, argsToLocals, Value.category]; done) | rfl
def Q3 (Z : State) (o0 : Addr) (e0 : Int32) (e1 : Int32) (e2 : Int32) (h0 : Heap) (n0 : Nat) (v : Option Value) (h : Heap) (L : List Loc) : Prop := v = none ∧ Fr n0 L ∧ Keep h0 h [o0] ∧ Ary tr Z h o0 .int [(.int (-1 : Int32)), (.int (-1 : Int32)), (.int (-1 : Int32))]
set_option maxRecDepth 65536 in
set_option maxHeartbeats 40000000 in
theorem rm3 (l : Launch) (Z : State) (a0 : Array Value) (hw : ∀ d ∈ tables_1, d.before a0 Z = true) (ws : List Jvm.Cond) (o0 : Addr) (e0 : Int32) (e1 : Int32) (e2 : Int32) (h0 : Heap) (n0 : Nat) (Z0 : n0 ≤ h0.size) (V_o0 : Ary tr Z h0 o0 .int [(.int e0), (.int e1), (.int e2)]) (g_o0 : n0 ≤ o0) :
    MetFree l (⟨"java/util/Arrays", "fill", "([II)V"⟩ : MethodName) (head1 (Jvm.Cond.code (⟨"java/util/Arrays", "fill", "([II)V"⟩ : MethodName) jdk_65_method_103_code 4 none :: ws) ({ frames := 0, cells := 0, slots := 0, locals := 0 } : Room)) (fun a U => a = #[(.ref o0), (.int (-1 : Int32))] ∧ Z.Warmed39 U.vm ∧ U.heap = h0) (fun _ _ _ _ _ => True) (fun _ U o U' => ∃ v L, o = .returned v ∧ Q3 Z o0 e0 e1 e2 h0 n0 v U'.heap L ∧ FrameEnd U o U' L ({ frames := 0, cells := 0, slots := 0, locals := 0 } : Room).cells ({ frames := 0, cells := 0, slots := 0, locals := 0 } : Room).slots) := by
  refine MetFree.of_bodySF (plainFor_of_name pn_java_util_Arrays) hisR ?_
  intro p e s m args below meth c s₁ Bd hml0 hP hK
  obtain ⟨rfl, hZ, hh⟩ := hP
  have hx := Bd.exec
  have hby := Bd.bytes
  have hml : c.maxLocals = 4 := hml0
  have hown : s.vm.findClass "java/util/Arrays" = some m.cls := findClass_of_methodNamed Bd.named
  have hnm := (name_of_methodNamed Bd.named Bd.method).1
  have X0 : Stand p l e ({ frames := 0, cells := 0, slots := 0, locals := 0 } : Room) s m #[(.ref o0), (.int (-1 : Int32))] below meth c s₁ [] 0 0 := Stand.of_body Bd
  have eH0 : s₁.heap = h0 := by rw [← hh, Bd.state]; rfl
  have N0 := Fr.nil n0
  have K0 := Keep.refl h0 [o0]
  show Gt p.tables e below (fun o U' => ∃ v L, o = .returned v ∧ Q3 Z o0 e0 e1 e2 h0 n0 v U'.heap L ∧ FrameEnd s o U' L ({ frames := 0, cells := 0, slots := 0, locals := 0 } : Room).cells ({ frames := 0, cells := 0, slots := 0, locals := 0 } : Room).slots) _
  refine own_cast (ef3 m o0) ?_
  refine own_iconst X0 hx hby (v := (0 : Int32)) (by decide) d3_0 (pc' := 1) rfl ?_
  refine own_istoreN X0 hx hby (L' := #[.val (.ref o0), .val (.int (-1 : Int32)), .val (.int (0 : Int32)), .unset]) rfl d3_1 (pc' := 2) rfl ?_
  refine own_aloadN X0 hx hby rfl rfl d3_2 (pc' := 3) rfl ?_
  refine own_alen X0 hx hby hZ eH0 V_o0 (z := (3 : Int32)) (by first | rfl | decide) d3_3 (pc' := 4) rfl ?_
  refine own_istoreN X0 hx hby (L' := #[.val (.ref o0), .val (.int (-1 : Int32)), .val (.int (0 : Int32)), .val (.int (3 : Int32))]) rfl d3_4 (pc' := 5) rfl ?_
  refine own_iloadN X0 hx hby rfl d3_5 (pc' := 6) rfl ?_
  refine own_iloadN X0 hx hby rfl d3_6 (pc' := 7) rfl ?_
  refine own_icF X0 hx hby d3_7 (by decide) (pc' := 10) rfl ?_
  refine own_aloadN X0 hx hby rfl rfl d3_10 (pc' := 11) rfl ?_
  refine own_iloadN X0 hx hby rfl d3_11 (pc' := 12) rfl ?_
  refine own_iloadN X0 hx hby rfl d3_12 (pc' := 13) rfl ?_
  refine own_iastore X0 hx hby hZ eH0 V_o0 (by decide) (n := 0) (by decide) (of_decide_eq_true rfl) d3_13 (pc' := 14) rfl (fun T1 h1 X1 eH1 W1 => ?_)
  have N1 := Fr.snoc X1 N0 g_o0
  replace K0 := K0.wr W1 (Or.inl (by simp))
  replace Z0 := Nat.le_trans Z0 (Nat.le_of_eq W1.size.symm)
  replace V_o0 : Ary tr Z h1 o0 .int [(.int (-1 : Int32)), (.int e1), (.int e2)] := V_o0.set W1
  refine own_iinc X1 hx hby rfl (L' := #[.val (.ref o0), .val (.int (-1 : Int32)), .val (.int (1 : Int32)), .val (.int (3 : Int32))]) rfl d3_14 (pc' := 17) rfl ?_
  refine own_goto X1 hx hby d3_17 (by decide) (pc' := 5) (by decide) ?_
  refine own_iloadN X1 hx hby rfl d3_5 (pc' := 6) rfl ?_
  refine own_iloadN X1 hx hby rfl d3_6 (pc' := 7) rfl ?_
  refine own_icF X1 hx hby d3_7 (by decide) (pc' := 10) rfl ?_
  refine own_aloadN X1 hx hby rfl rfl d3_10 (pc' := 11) rfl ?_
  refine own_iloadN X1 hx hby rfl d3_11 (pc' := 12) rfl ?_
  refine own_iloadN X1 hx hby rfl d3_12 (pc' := 13) rfl ?_
  refine own_iastore X1 hx hby hZ eH1 V_o0 (by decide) (n := 1) (by decide) (of_decide_eq_true rfl) d3_13 (pc' := 14) rfl (fun T2 h2 X2 eH2 W2 => ?_)
  have N2 := Fr.snoc X2 N1 g_o0
  replace K0 := K0.wr W2 (Or.inl (by simp))
  replace Z0 := Nat.le_trans Z0 (Nat.le_of_eq W2.size.symm)
  replace V_o0 : Ary tr Z h2 o0 .int [(.int (-1 : Int32)), (.int (-1 : Int32)), (.int e2)] := V_o0.set W2
  refine own_iinc X2 hx hby rfl (L' := #[.val (.ref o0), .val (.int (-1 : Int32)), .val (.int (2 : Int32)), .val (.int (3 : Int32))]) rfl d3_14 (pc' := 17) rfl ?_
  refine own_goto X2 hx hby d3_17 (by decide) (pc' := 5) (by decide) ?_
  refine own_iloadN X2 hx hby rfl d3_5 (pc' := 6) rfl ?_
  refine own_iloadN X2 hx hby rfl d3_6 (pc' := 7) rfl ?_
  refine own_icF X2 hx hby d3_7 (by decide) (pc' := 10) rfl ?_
  refine own_aloadN X2 hx hby rfl rfl d3_10 (pc' := 11) rfl ?_
  refine own_iloadN X2 hx hby rfl d3_11 (pc' := 12) rfl ?_
  refine own_iloadN X2 hx hby rfl d3_12 (pc' := 13) rfl ?_
  refine own_iastore X2 hx hby hZ eH2 V_o0 (by decide) (n := 2) (by decide) (of_decide_eq_true rfl) d3_13 (pc' := 14) rfl (fun T3 h3 X3 eH3 W3 => ?_)
  have N3 := Fr.snoc X3 N2 g_o0
  replace K0 := K0.wr W3 (Or.inl (by simp))
  replace Z0 := Nat.le_trans Z0 (Nat.le_of_eq W3.size.symm)
  replace V_o0 : Ary tr Z h3 o0 .int [(.int (-1 : Int32)), (.int (-1 : Int32)), (.int (-1 : Int32))] := V_o0.set W3
  refine own_iinc X3 hx hby rfl (L' := #[.val (.ref o0), .val (.int (-1 : Int32)), .val (.int (3 : Int32)), .val (.int (3 : Int32))]) rfl d3_14 (pc' := 17) rfl ?_
  refine own_goto X3 hx hby d3_17 (by decide) (pc' := 5) (by decide) ?_
  refine own_iloadN X3 hx hby rfl d3_5 (pc' := 6) rfl ?_
  refine own_iloadN X3 hx hby rfl d3_6 (pc' := 7) rfl ?_
  refine own_icT X3 hx hby d3_7 (by decide) (by decide) (pc' := 20) (by decide) ?_
  exact own_retV X3 hx hby Bd.notSynchronized Bd.returns d3_20 (by decide) (by decide) eH3 ⟨rfl, N3, K0, V_o0⟩
theorem ef1 (m : MethodId) (x0 : Addr) : entryFrame m #[(.ref x0), (.int (3 : Int32))] 2 = mkF m 0 #[.val (.ref x0), .val (.int (3 : Int32))] [] := by first | (simp [entryFrame, mkF, argsToLocals, Value.category]; done) | rfl
def Q1 (Z : State) (o0 : Addr) (u_heap_o0 : Value) (u_position_o0 : Value) (u_key_o0 : Value) (size_o0 : Int32) (h0 : Heap) (n0 : Nat) (v : Option Value) (h : Heap) (L : List Loc) : Prop := ∃ b2 b4 b6 : Addr, v = none ∧ Fr n0 L ∧ Keep h0 h [o0] ∧ h0.size ≤ b2 ∧ h0.size ≤ b4 ∧ h0.size ≤ b6 ∧ b2 ≠ b4 ∧ b2 ≠ b6 ∧ b4 ≠ b6 ∧ Exa Z h o0 "com/example/cross_town/crosstown/solve/NodeHeap" ∧ Fld Z h o0 "com/example/cross_town/crosstown/solve/NodeHeap" "heap" "[I" (.ref b2) ∧ Fld Z h o0 "com/example/cross_town/crosstown/solve/NodeHeap" "position" "[I" (.ref b4) ∧ Fld Z h o0 "com/example/cross_town/crosstown/solve/NodeHeap" "key" "[D" (.ref b6) ∧ Fld Z h o0 "com/example/cross_town/crosstown/solve/NodeHeap" "size" "I" (.int size_o0) ∧ Exa Z h b2 "[I" ∧ Ary tr Z h b2 .int [(.int (0 : Int32)), (.int (0 : Int32)), (.int (0 : Int32))] ∧ Exa Z h b4 "[I" ∧ Ary tr Z h b4 .int [(.int (-1 : Int32)), (.int (-1 : Int32)), (.int (-1 : Int32))] ∧ Exa Z h b6 "[D" ∧ Ary tr Z h b6 .double [(.double (0 : UInt64)), (.double (0 : UInt64)), (.double (0 : UInt64))]
set_option maxRecDepth 65536 in
set_option maxHeartbeats 40000000 in
theorem rm1 (l : Launch) (Z : State) (a0 : Array Value) (hw : ∀ d ∈ tables_1, d.before a0 Z = true) (ws : List Jvm.Cond) (o0 : Addr) (u_heap_o0 : Value) (u_position_o0 : Value) (u_key_o0 : Value) (size_o0 : Int32) (h0 : Heap) (n0 : Nat) (Z0 : n0 ≤ h0.size) (F_o0_heap : Fld Z h0 o0 "com/example/cross_town/crosstown/solve/NodeHeap" "heap" "[I" u_heap_o0) (F_o0_position : Fld Z h0 o0 "com/example/cross_town/crosstown/solve/NodeHeap" "position" "[I" u_position_o0) (F_o0_key : Fld Z h0 o0 "com/example/cross_town/crosstown/solve/NodeHeap" "key" "[D" u_key_o0) (F_o0_size : Fld Z h0 o0 "com/example/cross_town/crosstown/solve/NodeHeap" "size" "I" (.int size_o0)) (E_o0 : Exa Z h0 o0 "com/example/cross_town/crosstown/solve/NodeHeap") (g_o0 : n0 ≤ o0) :
    MetFree l (⟨"com/example/cross_town/crosstown/solve/NodeHeap", "<init>", "(I)V"⟩ : MethodName) (head1 (Jvm.Cond.code (⟨"com/example/cross_town/crosstown/solve/NodeHeap", "<init>", "(I)V"⟩ : MethodName) prog_33_method_1_code 2 none :: ws) ({ frames := 1, cells := 3, slots := 9, locals := 15 } : Room)) (fun a U => a = #[(.ref o0), (.int (3 : Int32))] ∧ Z.Warmed39 U.vm ∧ U.heap = h0) (fun _ _ _ _ _ => True) (fun _ U o U' => ∃ v L, o = .returned v ∧ Q1 Z o0 u_heap_o0 u_position_o0 u_key_o0 size_o0 h0 n0 v U'.heap L ∧ FrameEnd U o U' L ({ frames := 1, cells := 3, slots := 9, locals := 15 } : Room).cells ({ frames := 1, cells := 3, slots := 9, locals := 15 } : Room).slots) := by
  refine MetFree.of_bodySF (plainFor_of_name pn_com_example_cross_town_crosstown_solve_NodeHeap) hisR ?_
  intro p e s m args below meth c s₁ Bd hml0 hP hK
  obtain ⟨rfl, hZ, hh⟩ := hP
  have hx := Bd.exec
  have hby := Bd.bytes
  have hml : c.maxLocals = 2 := hml0
  have hown : s.vm.findClass "com/example/cross_town/crosstown/solve/NodeHeap" = some m.cls := findClass_of_methodNamed Bd.named
  have hnm := (name_of_methodNamed Bd.named Bd.method).1
  have X0 : Stand p l e ({ frames := 1, cells := 3, slots := 9, locals := 15 } : Room) s m #[(.ref o0), (.int (3 : Int32))] below meth c s₁ [] 0 0 := Stand.of_body Bd
  have eH0 : s₁.heap = h0 := by rw [← hh, Bd.state]; rfl
  have N0 := Fr.nil n0
  have K0 := Keep.refl h0 [o0]
  show Gt p.tables e below (fun o U' => ∃ v L, o = .returned v ∧ Q1 Z o0 u_heap_o0 u_position_o0 u_key_o0 size_o0 h0 n0 v U'.heap L ∧ FrameEnd s o U' L ({ frames := 1, cells := 3, slots := 9, locals := 15 } : Room).cells ({ frames := 1, cells := 3, slots := 9, locals := 15 } : Room).slots) _
  refine own_cast (ef1 m o0) ?_
  refine own_aloadN X0 hx hby rfl rfl d1_0 (pc' := 1) rfl ?_
  refine own_initO X0 hx hby hZ hown (hw _ (List.mem_of_getElem? (i := 6) rfl)) (hw _ (List.mem_of_getElem? (i := 7) rfl)) (hw _ (List.mem_of_getElem? (i := 8) rfl)) eH0 (by rw [hml]; rfl) d1_1 (pc' := 4) rfl (by decide) (W := 0) (Nat.le_of_eq rfl) (by decide) (fun T1 X1 eH1 => ?_)
  refine own_aloadN X1 hx hby rfl rfl d1_4 (pc' := 5) rfl ?_
  refine own_iloadN X1 hx hby rfl d1_5 (pc' := 6) rfl ?_
  refine own_newP X1 hx hby hZ (hw _ (List.mem_of_getElem? (i := 9) rfl)) eH1 d1_6 (pc' := 8) rfl (by decide) (N := 3) (by decide) (cap := 3) (by decide) (by decide) (by decide) (by decide) (ad := "[I") (by decide) (fun T2 h2 b2 X2 eH2 E2 g2 E_b2 V_b2 => ?_)
  have g_b2 : n0 ≤ b2 := g2 ▸ Z0
  have sz_b2 : h0.size ≤ b2 := g2 ▸ K0.1
  have ne_o0_b2 : o0 ≠ b2 := Nat.ne_of_lt (g2 ▸ E_o0.lt)
  replace E_o0 := E_o0.ext E2
  replace F_o0_heap := F_o0_heap.ext E2
  replace F_o0_position := F_o0_position.ext E2
  replace F_o0_key := F_o0_key.ext E2
  replace F_o0_size := F_o0_size.ext E2
  replace K0 := K0.ext E2
  replace Z0 := Nat.le_trans Z0 E2.1
  have V_b2 : Ary tr Z h2 b2 .int [(.int (0 : Int32)), (.int (0 : Int32)), (.int (0 : Int32))] := V_b2
  refine own_putF X2 hx hby hZ hown (host := "") (Or.inl (hw _ (List.mem_of_getElem? (i := 10) rfl))) Via.refl eH2 F_o0_heap E_o0 (Or.inr ⟨(hw _ (List.mem_of_getElem? (i := 11) rfl)), rfl, hnm⟩) (hw _ (List.mem_of_getElem? (i := 1) rfl)) (ty := (.array .int)) (by decide) rfl rfl d1_8 (pc' := 11) rfl (fun T3 h3 X3 eH3 W3 => ?_)
  replace E_o0 := E_o0.wr W3
  replace F_o0_heap := F_o0_heap.same W3
  replace F_o0_position := F_o0_position.other W3 (Or.inr (slot_ne (Or.inr (hw _ (List.mem_of_getElem? (i := 13) rfl))) (Or.inr (hw _ (List.mem_of_getElem? (i := 11) rfl))) (by decide) (t := (.array .int)) (t' := (.array .int)) (by decide) (by decide)))
  replace F_o0_key := F_o0_key.other W3 (Or.inr (slot_ne (Or.inr (hw _ (List.mem_of_getElem? (i := 16) rfl))) (Or.inr (hw _ (List.mem_of_getElem? (i := 11) rfl))) (by decide) (t := (.array .double)) (t' := (.array .int)) (by decide) (by decide)))
  replace F_o0_size := F_o0_size.other W3 (Or.inr (slot_ne (Or.inl (hw _ (List.mem_of_getElem? (i := 27) rfl))) (Or.inr (hw _ (List.mem_of_getElem? (i := 11) rfl))) (by decide) (t := .int) (t' := (.array .int)) (by decide) (by decide)))
  replace E_b2 := E_b2.wr W3
  replace V_b2 := V_b2.other W3 (Ne.symm ne_o0_b2)
  have N3 := Fr.snoc X3 N0 g_o0
  replace K0 := K0.wr W3 (Or.inl (by simp))
  replace Z0 := Nat.le_trans Z0 (Nat.le_of_eq W3.size.symm)
  refine own_aloadN X3 hx hby rfl rfl d1_11 (pc' := 12) rfl ?_
  refine own_iloadN X3 hx hby rfl d1_12 (pc' := 13) rfl ?_
  refine own_newP X3 hx hby hZ (hw _ (List.mem_of_getElem? (i := 9) rfl)) eH3 d1_13 (pc' := 15) rfl (by decide) (N := 3) (by decide) (cap := 3) (by decide) (by decide) (by decide) (by decide) (ad := "[I") (by decide) (fun T4 h4 b4 X4 eH4 E4 g4 E_b4 V_b4 => ?_)
  have g_b4 : n0 ≤ b4 := g4 ▸ Z0
  have sz_b4 : h0.size ≤ b4 := g4 ▸ K0.1
  have ne_o0_b4 : o0 ≠ b4 := Nat.ne_of_lt (g4 ▸ E_o0.lt)
  have ne_b2_b4 : b2 ≠ b4 := Nat.ne_of_lt (g4 ▸ E_b2.lt)
  replace E_o0 := E_o0.ext E4
  replace F_o0_heap := F_o0_heap.ext E4
  replace F_o0_position := F_o0_position.ext E4
  replace F_o0_key := F_o0_key.ext E4
  replace F_o0_size := F_o0_size.ext E4
  replace E_b2 := E_b2.ext E4
  replace V_b2 := V_b2.ext E4
  replace K0 := K0.ext E4
  replace Z0 := Nat.le_trans Z0 E4.1
  have V_b4 : Ary tr Z h4 b4 .int [(.int (0 : Int32)), (.int (0 : Int32)), (.int (0 : Int32))] := V_b4
  refine own_putF X4 hx hby hZ hown (host := "") (Or.inl (hw _ (List.mem_of_getElem? (i := 12) rfl))) Via.refl eH4 F_o0_position E_o0 (Or.inr ⟨(hw _ (List.mem_of_getElem? (i := 13) rfl)), rfl, hnm⟩) (hw _ (List.mem_of_getElem? (i := 1) rfl)) (ty := (.array .int)) (by decide) rfl rfl d1_15 (pc' := 18) rfl (fun T5 h5 X5 eH5 W5 => ?_)
  replace E_o0 := E_o0.wr W5
  replace F_o0_heap := F_o0_heap.other W5 (Or.inr (slot_ne (Or.inr (hw _ (List.mem_of_getElem? (i := 11) rfl))) (Or.inr (hw _ (List.mem_of_getElem? (i := 13) rfl))) (by decide) (t := (.array .int)) (t' := (.array .int)) (by decide) (by decide)))
  replace F_o0_position := F_o0_position.same W5
  replace F_o0_key := F_o0_key.other W5 (Or.inr (slot_ne (Or.inr (hw _ (List.mem_of_getElem? (i := 16) rfl))) (Or.inr (hw _ (List.mem_of_getElem? (i := 13) rfl))) (by decide) (t := (.array .double)) (t' := (.array .int)) (by decide) (by decide)))
  replace F_o0_size := F_o0_size.other W5 (Or.inr (slot_ne (Or.inl (hw _ (List.mem_of_getElem? (i := 27) rfl))) (Or.inr (hw _ (List.mem_of_getElem? (i := 13) rfl))) (by decide) (t := .int) (t' := (.array .int)) (by decide) (by decide)))
  replace E_b2 := E_b2.wr W5
  replace V_b2 := V_b2.other W5 (Ne.symm ne_o0_b2)
  replace E_b4 := E_b4.wr W5
  replace V_b4 := V_b4.other W5 (Ne.symm ne_o0_b4)
  have N5 := Fr.snoc X5 N3 g_o0
  replace K0 := K0.wr W5 (Or.inl (by simp))
  replace Z0 := Nat.le_trans Z0 (Nat.le_of_eq W5.size.symm)
  refine own_aloadN X5 hx hby rfl rfl d1_18 (pc' := 19) rfl ?_
  refine own_iloadN X5 hx hby rfl d1_19 (pc' := 20) rfl ?_
  refine own_newP X5 hx hby hZ (hw _ (List.mem_of_getElem? (i := 14) rfl)) eH5 d1_20 (pc' := 22) rfl (by decide) (N := 3) (by decide) (cap := 3) (by decide) (by decide) (by decide) (by decide) (ad := "[D") (by decide) (fun T6 h6 b6 X6 eH6 E6 g6 E_b6 V_b6 => ?_)
  have g_b6 : n0 ≤ b6 := g6 ▸ Z0
  have sz_b6 : h0.size ≤ b6 := g6 ▸ K0.1
  have ne_o0_b6 : o0 ≠ b6 := Nat.ne_of_lt (g6 ▸ E_o0.lt)
  have ne_b2_b6 : b2 ≠ b6 := Nat.ne_of_lt (g6 ▸ E_b2.lt)
  have ne_b4_b6 : b4 ≠ b6 := Nat.ne_of_lt (g6 ▸ E_b4.lt)
  replace E_o0 := E_o0.ext E6
  replace F_o0_heap := F_o0_heap.ext E6
  replace F_o0_position := F_o0_position.ext E6
  replace F_o0_key := F_o0_key.ext E6
  replace F_o0_size := F_o0_size.ext E6
  replace E_b2 := E_b2.ext E6
  replace V_b2 := V_b2.ext E6
  replace E_b4 := E_b4.ext E6
  replace V_b4 := V_b4.ext E6
  replace K0 := K0.ext E6
  replace Z0 := Nat.le_trans Z0 E6.1
  have V_b6 : Ary tr Z h6 b6 .double [(.double (0 : UInt64)), (.double (0 : UInt64)), (.double (0 : UInt64))] := V_b6
  refine own_putF X6 hx hby hZ hown (host := "") (Or.inl (hw _ (List.mem_of_getElem? (i := 15) rfl))) Via.refl eH6 F_o0_key E_o0 (Or.inr ⟨(hw _ (List.mem_of_getElem? (i := 16) rfl)), rfl, hnm⟩) (hw _ (List.mem_of_getElem? (i := 1) rfl)) (ty := (.array .double)) (by decide) rfl rfl d1_22 (pc' := 25) rfl (fun T7 h7 X7 eH7 W7 => ?_)
  replace E_o0 := E_o0.wr W7
  replace F_o0_heap := F_o0_heap.other W7 (Or.inr (slot_ne (Or.inr (hw _ (List.mem_of_getElem? (i := 11) rfl))) (Or.inr (hw _ (List.mem_of_getElem? (i := 16) rfl))) (by decide) (t := (.array .int)) (t' := (.array .double)) (by decide) (by decide)))
  replace F_o0_position := F_o0_position.other W7 (Or.inr (slot_ne (Or.inr (hw _ (List.mem_of_getElem? (i := 13) rfl))) (Or.inr (hw _ (List.mem_of_getElem? (i := 16) rfl))) (by decide) (t := (.array .int)) (t' := (.array .double)) (by decide) (by decide)))
  replace F_o0_key := F_o0_key.same W7
  replace F_o0_size := F_o0_size.other W7 (Or.inr (slot_ne (Or.inl (hw _ (List.mem_of_getElem? (i := 27) rfl))) (Or.inr (hw _ (List.mem_of_getElem? (i := 16) rfl))) (by decide) (t := .int) (t' := (.array .double)) (by decide) (by decide)))
  replace E_b2 := E_b2.wr W7
  replace V_b2 := V_b2.other W7 (Ne.symm ne_o0_b2)
  replace E_b4 := E_b4.wr W7
  replace V_b4 := V_b4.other W7 (Ne.symm ne_o0_b4)
  replace E_b6 := E_b6.wr W7
  replace V_b6 := V_b6.other W7 (Ne.symm ne_o0_b6)
  have N7 := Fr.snoc X7 N5 g_o0
  replace K0 := K0.wr W7 (Or.inl (by simp))
  replace Z0 := Nat.le_trans Z0 (Nat.le_of_eq W7.size.symm)
  refine own_aloadN X7 hx hby rfl rfl d1_25 (pc' := 26) rfl ?_
  refine own_getF X7 hx hby hZ hown (host := "") (Or.inl (hw _ (List.mem_of_getElem? (i := 12) rfl))) Via.refl eH7 F_o0_position d1_26 (pc' := 29) rfl (fun T8 X8 eH8 => ?_)
  refine own_iconst X8 hx hby (v := (-1 : Int32)) (by decide) d1_29 (pc' := 30) rfl ?_
  refine own_static X8 hx hby hZ (y := (⟨"java/util/Arrays", "fill", "([II)V"⟩ : MethodName)) (rest := []) hown (hw _ (List.mem_of_getElem? (i := 17) rfl)) (hw _ (List.mem_of_getElem? (i := 18) rfl)) (hw _ (List.mem_of_getElem? (i := 20) rfl)) (hw _ (List.mem_of_getElem? (i := 19) rfl)) (by decide) (rm3 l Z a0 hw [] b4 (0 : Int32) (0 : Int32) (0 : Int32) h7 n0 Z0 V_b4 g_b4) eH8 (by rw [hml]; rfl) (argsL := [(.ref b4), (.int (-1 : Int32))]) rfl (lenOf pd_0 rfl) rfl d1_30 (pc' := 33) rfl (by decide) (W := 0) (Nat.le_of_eq rfl) (by decide) (by decide) (by decide) (fun T9 h9 Lc9 v9r X9 eH9 hQ9 => ?_)
  obtain ⟨rfl, Nq9, Kq9, gq9_0⟩ := hQ9
  have N9 := Fr.app N7 Nq9
  replace E_o0 := E_o0.keep Kq9
  replace F_o0_heap := F_o0_heap.keep Kq9 (ninS ne_o0_b4 nin0)
  replace F_o0_position := F_o0_position.keep Kq9 (ninS ne_o0_b4 nin0)
  replace F_o0_key := F_o0_key.keep Kq9 (ninS ne_o0_b4 nin0)
  replace F_o0_size := F_o0_size.keep Kq9 (ninS ne_o0_b4 nin0)
  replace E_b2 := E_b2.keep Kq9
  replace V_b2 := V_b2.keep Kq9 (ninS ne_b2_b4 nin0)
  replace E_b4 := E_b4.keep Kq9
  replace E_b6 := E_b6.keep Kq9
  replace V_b6 := V_b6.keep Kq9 (ninS (Ne.symm ne_b4_b6) nin0)
  replace K0 := K0.trans Kq9 (allS (Or.inr sz_b4) all0)
  have V_b4 := gq9_0
  replace Z0 := Nat.le_trans Z0 Kq9.1
  exact own_retV X9 hx hby Bd.notSynchronized Bd.returns d1_33 (by decide) (by decide) eH9 ⟨b2, b4, b6, rfl, N9, K0, sz_b2, sz_b4, sz_b6, ne_b2_b4, ne_b2_b6, ne_b4_b6, E_o0, F_o0_heap, F_o0_position, F_o0_key, F_o0_size, E_b2, V_b2, E_b4, V_b4, E_b6, V_b6⟩
theorem ef4 (m : MethodId) (x0 : Addr) : entryFrame m #[(.ref x0)] 1 = mkF m 0 #[.val (.ref x0)] [] := by first | (simp [entryFrame, mkF, argsToLocals, Value.category]; done) | rfl
def Q4 (Z : State) (o0 : Addr) (size_o0 : Int32) (h0 : Heap) (n0 : Nat) (v : Option Value) (h : Heap) (L : List Loc) : Prop := v = some (.int (if size_o0 = 0 then (1 : Int32) else (0 : Int32))) ∧ Fr n0 L ∧ h0 = h
set_option maxRecDepth 65536 in
set_option maxHeartbeats 40000000 in
theorem rm4 (l : Launch) (Z : State) (a0 : Array Value) (hw : ∀ d ∈ tables_1, d.before a0 Z = true) (ws : List Jvm.Cond) (o0 : Addr) (size_o0 : Int32) (h0 : Heap) (n0 : Nat) (Z0 : n0 ≤ h0.size) (F_o0_size : Fld Z h0 o0 "com/example/cross_town/crosstown/solve/NodeHeap" "size" "I" (.int size_o0)) :
    MetFree l (⟨"com/example/cross_town/crosstown/solve/NodeHeap", "isEmpty", "()Z"⟩ : MethodName) (head1 (Jvm.Cond.code (⟨"com/example/cross_town/crosstown/solve/NodeHeap", "isEmpty", "()Z"⟩ : MethodName) prog_33_method_2_code 1 (some .boolean) :: ws) ({ frames := 0, cells := 0, slots := 0, locals := 0 } : Room)) (fun a U => a = #[(.ref o0)] ∧ Z.Warmed39 U.vm ∧ U.heap = h0) (fun _ _ _ _ _ => True) (fun _ U o U' => ∃ v L, o = .returned v ∧ Q4 Z o0 size_o0 h0 n0 v U'.heap L ∧ FrameEnd U o U' L ({ frames := 0, cells := 0, slots := 0, locals := 0 } : Room).cells ({ frames := 0, cells := 0, slots := 0, locals := 0 } : Room).slots) := by
  refine MetFree.of_bodySF (plainFor_of_name pn_com_example_cross_town_crosstown_solve_NodeHeap) hisR ?_
  intro p e s m args below meth c s₁ Bd hml0 hP hK
  obtain ⟨rfl, hZ, hh⟩ := hP
  have hx := Bd.exec
  have hby := Bd.bytes
  have hml : c.maxLocals = 1 := hml0
  have hown : s.vm.findClass "com/example/cross_town/crosstown/solve/NodeHeap" = some m.cls := findClass_of_methodNamed Bd.named
  have hnm := (name_of_methodNamed Bd.named Bd.method).1
  have X0 : Stand p l e ({ frames := 0, cells := 0, slots := 0, locals := 0 } : Room) s m #[(.ref o0)] below meth c s₁ [] 0 0 := Stand.of_body Bd
  have eH0 : s₁.heap = h0 := by rw [← hh, Bd.state]; rfl
  have N0 := Fr.nil n0
  show Gt p.tables e below (fun o U' => ∃ v L, o = .returned v ∧ Q4 Z o0 size_o0 h0 n0 v U'.heap L ∧ FrameEnd s o U' L ({ frames := 0, cells := 0, slots := 0, locals := 0 } : Room).cells ({ frames := 0, cells := 0, slots := 0, locals := 0 } : Room).slots) _
  refine own_cast (ef4 m o0) ?_
  refine own_aloadN X0 hx hby rfl rfl d4_0 (pc' := 1) rfl ?_
  refine own_getF X0 hx hby hZ hown (host := "") (Or.inl (hw _ (List.mem_of_getElem? (i := 26) rfl))) Via.refl eH0 F_o0_size d4_1 (pc' := 4) rfl (fun T1 X1 eH1 => ?_)
  by_cases hc2 : size_o0 = 0
  · refine own_ifF X1 hx hby d4_4 (own_i0_ne_p hc2) (pc' := 7) rfl ?_
    refine own_iconst X1 hx hby (v := (1 : Int32)) (by decide) d4_7 (pc' := 8) rfl ?_
    refine own_goto X1 hx hby d4_8 (by decide) (pc' := 12) (by decide) ?_
    exact own_retZ X1 hx hby Bd.notSynchronized Bd.returns (Or.inr rfl) d4_12 (by decide) (by decide) eH1 ⟨(by rw [if_pos hc2]), N0, rfl⟩
  · refine own_ifT X1 hx hby d4_4 (own_i0_ne_n hc2) (by decide) (pc' := 11) (by decide) ?_
    refine own_iconst X1 hx hby (v := (0 : Int32)) (by decide) d4_11 (pc' := 12) rfl ?_
    exact own_retZ X1 hx hby Bd.notSynchronized Bd.returns (Or.inl rfl) d4_12 (by decide) (by decide) eH1 ⟨(by rw [if_neg hc2]), N0, rfl⟩
theorem ef70 (m : MethodId) (x0 : Addr) (x2 : Int32) : entryFrame m #[(.ref x0), (.int (0 : Int32)), (.int x2)] 3 = mkF m 0 #[.val (.ref x0), .val (.int (0 : Int32)), .val (.int x2)] [] := by first | (simp [entryFrame, mkF, argsToLocals, Value.category]; done) | rfl
def Q70 (Z : State) (o0 : Addr) (p2 : Int32) (heap_o0 : Addr) (position_o0 : Addr) (y0 : Int32) (y1 : Int32) (y2 : Int32) (P : List Int32) (h0 : Heap) (n0 : Nat) (v : Option Value) (h : Heap) (L : List Loc) : Prop := v = none ∧ Fr n0 L ∧ Keep h0 h [heap_o0, position_o0] ∧ Ary tr Z h heap_o0 .int [(.int p2), (.int y1), (.int y2)] ∧ Ary tr Z h position_o0 .int ((P.set p2.toNatClampNeg (0 : Int32)).map Value.int)
set_option maxRecDepth 65536 in
set_option maxHeartbeats 40000000 in
theorem rm70 (l : Launch) (Z : State) (a0 : Array Value) (hw : ∀ d ∈ tables_1, d.before a0 Z = true) (ws : List Jvm.Cond) (o0 : Addr) (p2 : Int32) (heap_o0 : Addr) (position_o0 : Addr) (y0 : Int32) (y1 : Int32) (y2 : Int32) (P : List Int32) (h0 : Heap) (n0 : Nat) (Z0 : n0 ≤ h0.size) (E_o0 : Exa Z h0 o0 "com/example/cross_town/crosstown/solve/NodeHeap") (F_o0_heap : Fld Z h0 o0 "com/example/cross_town/crosstown/solve/NodeHeap" "heap" "[I" (.ref heap_o0)) (F_o0_position : Fld Z h0 o0 "com/example/cross_town/crosstown/solve/NodeHeap" "position" "[I" (.ref position_o0)) (V_heap_o0 : Ary tr Z h0 heap_o0 .int [(.int y0), (.int y1), (.int y2)]) (V_position_o0 : Ary tr Z h0 position_o0 .int (P.map Value.int)) (hl_P : (P.length = 3)) (rg_p2 : (0 ≤ p2.toInt ∧ p2.toInt < 3)) (g_heap_o0 : n0 ≤ heap_o0) (ne_o0_heap_o0 : o0 ≠ heap_o0) (ne_position_o0_heap_o0 : position_o0 ≠ heap_o0) (g_position_o0 : n0 ≤ position_o0) (ne_o0_position_o0 : o0 ≠ position_o0) :
    MetFree l (⟨"com/example/cross_town/crosstown/solve/NodeHeap", "place", "(II)V"⟩ : MethodName) (head1 (Jvm.Cond.code (⟨"com/example/cross_town/crosstown/solve/NodeHeap", "place", "(II)V"⟩ : MethodName) prog_33_method_7_code 3 none :: ws) ({ frames := 0, cells := 0, slots := 0, locals := 0 } : Room)) (fun a U => a = #[(.ref o0), (.int (0 : Int32)), (.int p2)] ∧ Z.Warmed39 U.vm ∧ U.heap = h0) (fun _ _ _ _ _ => True) (fun _ U o U' => ∃ v L, o = .returned v ∧ Q70 Z o0 p2 heap_o0 position_o0 y0 y1 y2 P h0 n0 v U'.heap L ∧ FrameEnd U o U' L ({ frames := 0, cells := 0, slots := 0, locals := 0 } : Room).cells ({ frames := 0, cells := 0, slots := 0, locals := 0 } : Room).slots) := by
  refine MetFree.of_bodySF (plainFor_of_name pn_com_example_cross_town_crosstown_solve_NodeHeap) hisR ?_
  intro p e s m args below meth c s₁ Bd hml0 hP hK
  obtain ⟨rfl, hZ, hh⟩ := hP
  have hx := Bd.exec
  have hby := Bd.bytes
  have hml : c.maxLocals = 3 := hml0
  have hown : s.vm.findClass "com/example/cross_town/crosstown/solve/NodeHeap" = some m.cls := findClass_of_methodNamed Bd.named
  have hnm := (name_of_methodNamed Bd.named Bd.method).1
  have X0 : Stand p l e ({ frames := 0, cells := 0, slots := 0, locals := 0 } : Room) s m #[(.ref o0), (.int (0 : Int32)), (.int p2)] below meth c s₁ [] 0 0 := Stand.of_body Bd
  have eH0 : s₁.heap = h0 := by rw [← hh, Bd.state]; rfl
  have N0 := Fr.nil n0
  have K0 := Keep.refl h0 [heap_o0, position_o0]
  show Gt p.tables e below (fun o U' => ∃ v L, o = .returned v ∧ Q70 Z o0 p2 heap_o0 position_o0 y0 y1 y2 P h0 n0 v U'.heap L ∧ FrameEnd s o U' L ({ frames := 0, cells := 0, slots := 0, locals := 0 } : Room).cells ({ frames := 0, cells := 0, slots := 0, locals := 0 } : Room).slots) _
  refine own_cast (ef70 m o0 p2) ?_
  refine own_aloadN X0 hx hby rfl rfl d7_0 (pc' := 1) rfl ?_
  refine own_getF X0 hx hby hZ hown (host := "") (Or.inl (hw _ (List.mem_of_getElem? (i := 10) rfl))) Via.refl eH0 F_o0_heap d7_1 (pc' := 4) rfl (fun T1 X1 eH1 => ?_)
  refine own_iloadN X1 hx hby rfl d7_4 (pc' := 5) rfl ?_
  refine own_iloadN X1 hx hby rfl d7_5 (pc' := 6) rfl ?_
  refine own_iastore X1 hx hby hZ eH1 V_heap_o0 (by decide) (n := 0) (by decide) (of_decide_eq_true rfl) d7_6 (pc' := 7) rfl (fun T2 h2 X2 eH2 W2 => ?_)
  replace E_o0 := E_o0.wr W2
  replace F_o0_heap := F_o0_heap.other W2 (Or.inl ne_o0_heap_o0)
  replace F_o0_position := F_o0_position.other W2 (Or.inl ne_o0_heap_o0)
  replace V_position_o0 := V_position_o0.other W2 ne_position_o0_heap_o0
  have N2 := Fr.snoc X2 N0 g_heap_o0
  replace K0 := K0.wr W2 (Or.inl (by simp))
  replace Z0 := Nat.le_trans Z0 (Nat.le_of_eq W2.size.symm)
  replace V_heap_o0 : Ary tr Z h2 heap_o0 .int [(.int p2), (.int y1), (.int y2)] := V_heap_o0.set W2
  refine own_aloadN X2 hx hby rfl rfl d7_7 (pc' := 8) rfl ?_
  refine own_getF X2 hx hby hZ hown (host := "") (Or.inl (hw _ (List.mem_of_getElem? (i := 12) rfl))) Via.refl eH2 F_o0_position d7_8 (pc' := 11) rfl (fun T3 X3 eH3 => ?_)
  refine own_iloadN X3 hx hby rfl d7_11 (pc' := 12) rfl ?_
  refine own_iloadN X3 hx hby rfl d7_12 (pc' := 13) rfl ?_
  refine own_iastore X3 hx hby hZ eH3 V_position_o0 (own_rg0 rg_p2) (n := p2.toNatClampNeg) rfl (by rw [List.length_map]; exact own_rgl rg_p2 hl_P) d7_13 (pc' := 14) rfl (fun T4 h4 X4 eH4 W4 => ?_)
  replace E_o0 := E_o0.wr W4
  replace F_o0_heap := F_o0_heap.other W4 (Or.inl ne_o0_position_o0)
  replace F_o0_position := F_o0_position.other W4 (Or.inl ne_o0_position_o0)
  replace V_heap_o0 := V_heap_o0.other W4 (Ne.symm ne_position_o0_heap_o0)
  have N4 := Fr.snoc X4 N2 g_position_o0
  replace K0 := K0.wr W4 (Or.inl (by simp))
  replace Z0 := Nat.le_trans Z0 (Nat.le_of_eq W4.size.symm)
  have hl5 : (P.set p2.toNatClampNeg (0 : Int32)).length = 3 := by rw [List.length_set]; exact hl_P
  replace V_position_o0 : Ary tr Z h4 position_o0 .int ((P.set p2.toNatClampNeg (0 : Int32)).map Value.int) := by rw [List.map_set]; exact V_position_o0.set W4
  exact own_retV X4 hx hby Bd.notSynchronized Bd.returns d7_14 (by decide) (by decide) eH4 ⟨rfl, N4, K0, V_heap_o0, V_position_o0⟩
theorem ef71 (m : MethodId) (x0 : Addr) (x2 : Int32) : entryFrame m #[(.ref x0), (.int (1 : Int32)), (.int x2)] 3 = mkF m 0 #[.val (.ref x0), .val (.int (1 : Int32)), .val (.int x2)] [] := by first | (simp [entryFrame, mkF, argsToLocals, Value.category]; done) | rfl
def Q71 (Z : State) (o0 : Addr) (p2 : Int32) (heap_o0 : Addr) (position_o0 : Addr) (y0 : Int32) (y1 : Int32) (y2 : Int32) (P : List Int32) (h0 : Heap) (n0 : Nat) (v : Option Value) (h : Heap) (L : List Loc) : Prop := v = none ∧ Fr n0 L ∧ Keep h0 h [heap_o0, position_o0] ∧ Ary tr Z h heap_o0 .int [(.int y0), (.int p2), (.int y2)] ∧ Ary tr Z h position_o0 .int ((P.set p2.toNatClampNeg (1 : Int32)).map Value.int)
set_option maxRecDepth 65536 in
set_option maxHeartbeats 40000000 in
theorem rm71 (l : Launch) (Z : State) (a0 : Array Value) (hw : ∀ d ∈ tables_1, d.before a0 Z = true) (ws : List Jvm.Cond) (o0 : Addr) (p2 : Int32) (heap_o0 : Addr) (position_o0 : Addr) (y0 : Int32) (y1 : Int32) (y2 : Int32) (P : List Int32) (h0 : Heap) (n0 : Nat) (Z0 : n0 ≤ h0.size) (E_o0 : Exa Z h0 o0 "com/example/cross_town/crosstown/solve/NodeHeap") (F_o0_heap : Fld Z h0 o0 "com/example/cross_town/crosstown/solve/NodeHeap" "heap" "[I" (.ref heap_o0)) (F_o0_position : Fld Z h0 o0 "com/example/cross_town/crosstown/solve/NodeHeap" "position" "[I" (.ref position_o0)) (V_heap_o0 : Ary tr Z h0 heap_o0 .int [(.int y0), (.int y1), (.int y2)]) (V_position_o0 : Ary tr Z h0 position_o0 .int (P.map Value.int)) (hl_P : (P.length = 3)) (rg_p2 : (0 ≤ p2.toInt ∧ p2.toInt < 3)) (g_heap_o0 : n0 ≤ heap_o0) (ne_o0_heap_o0 : o0 ≠ heap_o0) (ne_position_o0_heap_o0 : position_o0 ≠ heap_o0) (g_position_o0 : n0 ≤ position_o0) (ne_o0_position_o0 : o0 ≠ position_o0) :
    MetFree l (⟨"com/example/cross_town/crosstown/solve/NodeHeap", "place", "(II)V"⟩ : MethodName) (head1 (Jvm.Cond.code (⟨"com/example/cross_town/crosstown/solve/NodeHeap", "place", "(II)V"⟩ : MethodName) prog_33_method_7_code 3 none :: ws) ({ frames := 0, cells := 0, slots := 0, locals := 0 } : Room)) (fun a U => a = #[(.ref o0), (.int (1 : Int32)), (.int p2)] ∧ Z.Warmed39 U.vm ∧ U.heap = h0) (fun _ _ _ _ _ => True) (fun _ U o U' => ∃ v L, o = .returned v ∧ Q71 Z o0 p2 heap_o0 position_o0 y0 y1 y2 P h0 n0 v U'.heap L ∧ FrameEnd U o U' L ({ frames := 0, cells := 0, slots := 0, locals := 0 } : Room).cells ({ frames := 0, cells := 0, slots := 0, locals := 0 } : Room).slots) := by
  refine MetFree.of_bodySF (plainFor_of_name pn_com_example_cross_town_crosstown_solve_NodeHeap) hisR ?_
  intro p e s m args below meth c s₁ Bd hml0 hP hK
  obtain ⟨rfl, hZ, hh⟩ := hP
  have hx := Bd.exec
  have hby := Bd.bytes
  have hml : c.maxLocals = 3 := hml0
  have hown : s.vm.findClass "com/example/cross_town/crosstown/solve/NodeHeap" = some m.cls := findClass_of_methodNamed Bd.named
  have hnm := (name_of_methodNamed Bd.named Bd.method).1
  have X0 : Stand p l e ({ frames := 0, cells := 0, slots := 0, locals := 0 } : Room) s m #[(.ref o0), (.int (1 : Int32)), (.int p2)] below meth c s₁ [] 0 0 := Stand.of_body Bd
  have eH0 : s₁.heap = h0 := by rw [← hh, Bd.state]; rfl
  have N0 := Fr.nil n0
  have K0 := Keep.refl h0 [heap_o0, position_o0]
  show Gt p.tables e below (fun o U' => ∃ v L, o = .returned v ∧ Q71 Z o0 p2 heap_o0 position_o0 y0 y1 y2 P h0 n0 v U'.heap L ∧ FrameEnd s o U' L ({ frames := 0, cells := 0, slots := 0, locals := 0 } : Room).cells ({ frames := 0, cells := 0, slots := 0, locals := 0 } : Room).slots) _
  refine own_cast (ef71 m o0 p2) ?_
  refine own_aloadN X0 hx hby rfl rfl d7_0 (pc' := 1) rfl ?_
  refine own_getF X0 hx hby hZ hown (host := "") (Or.inl (hw _ (List.mem_of_getElem? (i := 10) rfl))) Via.refl eH0 F_o0_heap d7_1 (pc' := 4) rfl (fun T1 X1 eH1 => ?_)
  refine own_iloadN X1 hx hby rfl d7_4 (pc' := 5) rfl ?_
  refine own_iloadN X1 hx hby rfl d7_5 (pc' := 6) rfl ?_
  refine own_iastore X1 hx hby hZ eH1 V_heap_o0 (by decide) (n := 1) (by decide) (of_decide_eq_true rfl) d7_6 (pc' := 7) rfl (fun T2 h2 X2 eH2 W2 => ?_)
  replace E_o0 := E_o0.wr W2
  replace F_o0_heap := F_o0_heap.other W2 (Or.inl ne_o0_heap_o0)
  replace F_o0_position := F_o0_position.other W2 (Or.inl ne_o0_heap_o0)
  replace V_position_o0 := V_position_o0.other W2 ne_position_o0_heap_o0
  have N2 := Fr.snoc X2 N0 g_heap_o0
  replace K0 := K0.wr W2 (Or.inl (by simp))
  replace Z0 := Nat.le_trans Z0 (Nat.le_of_eq W2.size.symm)
  replace V_heap_o0 : Ary tr Z h2 heap_o0 .int [(.int y0), (.int p2), (.int y2)] := V_heap_o0.set W2
  refine own_aloadN X2 hx hby rfl rfl d7_7 (pc' := 8) rfl ?_
  refine own_getF X2 hx hby hZ hown (host := "") (Or.inl (hw _ (List.mem_of_getElem? (i := 12) rfl))) Via.refl eH2 F_o0_position d7_8 (pc' := 11) rfl (fun T3 X3 eH3 => ?_)
  refine own_iloadN X3 hx hby rfl d7_11 (pc' := 12) rfl ?_
  refine own_iloadN X3 hx hby rfl d7_12 (pc' := 13) rfl ?_
  refine own_iastore X3 hx hby hZ eH3 V_position_o0 (own_rg0 rg_p2) (n := p2.toNatClampNeg) rfl (by rw [List.length_map]; exact own_rgl rg_p2 hl_P) d7_13 (pc' := 14) rfl (fun T4 h4 X4 eH4 W4 => ?_)
  replace E_o0 := E_o0.wr W4
  replace F_o0_heap := F_o0_heap.other W4 (Or.inl ne_o0_position_o0)
  replace F_o0_position := F_o0_position.other W4 (Or.inl ne_o0_position_o0)
  replace V_heap_o0 := V_heap_o0.other W4 (Ne.symm ne_position_o0_heap_o0)
  have N4 := Fr.snoc X4 N2 g_position_o0
  replace K0 := K0.wr W4 (Or.inl (by simp))
  replace Z0 := Nat.le_trans Z0 (Nat.le_of_eq W4.size.symm)
  have hl5 : (P.set p2.toNatClampNeg (1 : Int32)).length = 3 := by rw [List.length_set]; exact hl_P
  replace V_position_o0 : Ary tr Z h4 position_o0 .int ((P.set p2.toNatClampNeg (1 : Int32)).map Value.int) := by rw [List.map_set]; exact V_position_o0.set W4
  exact own_retV X4 hx hby Bd.notSynchronized Bd.returns d7_14 (by decide) (by decide) eH4 ⟨rfl, N4, K0, V_heap_o0, V_position_o0⟩
theorem ef6n0 (m : MethodId) (x0 : Addr) (x2 : Int32) : entryFrame m #[(.ref x0), (.int (0 : Int32)), (.int x2)] 5 = mkF m 0 #[.val (.ref x0), .val (.int (0 : Int32)), .val (.int x2), .unset, .unset] [] := by first | (simp [entryFrame, mkF, argsToLocals, Value.category]; done) | rfl
def Q6n0 (Z : State) (o0 : Addr) (p2 : Int32) (heap_o0 : Addr) (position_o0 : Addr) (key_o0 : Addr) (y0 : Int32) (y1 : Int32) (y2 : Int32) (P : List Int32) (K : List UInt64) (h0 : Heap) (n0 : Nat) (v : Option Value) (h : Heap) (L : List Loc) : Prop := v = none ∧ Fr n0 L ∧ Keep h0 h [position_o0, heap_o0] ∧ Ary tr Z h position_o0 .int ((P.set p2.toNatClampNeg (0 : Int32)).map Value.int) ∧ Ary tr Z h heap_o0 .int [(.int p2), (.int y1), (.int y2)] ∧ (Hp1 p2 (P.set p2.toNatClampNeg (0 : Int32)) K) ∧ (∀ z : Int32, (0 ≤ z.toInt ∧ z.toInt < 3) → ¬ p2.toInt = z.toInt → pv P z = -1 → pv (P.set p2.toNatClampNeg (0 : Int32)) z = -1)
set_option maxRecDepth 65536 in
set_option maxHeartbeats 40000000 in
theorem rm6n0 (l : Launch) (Z : State) (a0 : Array Value) (hw : ∀ d ∈ tables_1, d.before a0 Z = true) (ws : List Jvm.Cond) (o0 : Addr) (p2 : Int32) (heap_o0 : Addr) (position_o0 : Addr) (key_o0 : Addr) (y0 : Int32) (y1 : Int32) (y2 : Int32) (P : List Int32) (K : List UInt64) (h0 : Heap) (n0 : Nat) (Z0 : n0 ≤ h0.size) (E_o0 : Exa Z h0 o0 "com/example/cross_town/crosstown/solve/NodeHeap") (F_o0_heap : Fld Z h0 o0 "com/example/cross_town/crosstown/solve/NodeHeap" "heap" "[I" (.ref heap_o0)) (F_o0_position : Fld Z h0 o0 "com/example/cross_town/crosstown/solve/NodeHeap" "position" "[I" (.ref position_o0)) (F_o0_key : Fld Z h0 o0 "com/example/cross_town/crosstown/solve/NodeHeap" "key" "[D" (.ref key_o0)) (V_heap_o0 : Ary tr Z h0 heap_o0 .int [(.int y0), (.int y1), (.int y2)]) (V_position_o0 : Ary tr Z h0 position_o0 .int (P.map Value.int)) (hl_P : (P.length = 3)) (V_key_o0 : Ary tr Z h0 key_o0 .double (K.map Value.double)) (hl_K : (K.length = 3)) (rg_p2 : (0 ≤ p2.toInt ∧ p2.toInt < 3)) (nnk : (NNk K)) (pv_p2 : (pv P p2 = -1)) (g_heap_o0 : n0 ≤ heap_o0) (ne_o0_heap_o0 : o0 ≠ heap_o0) (ne_position_o0_heap_o0 : position_o0 ≠ heap_o0) (g_position_o0 : n0 ≤ position_o0) (ne_o0_position_o0 : o0 ≠ position_o0) (ne_key_o0_position_o0 : key_o0 ≠ position_o0) (ne_key_o0_heap_o0 : key_o0 ≠ heap_o0) :
    MetFree l (⟨"com/example/cross_town/crosstown/solve/NodeHeap", "siftUp", "(II)V"⟩ : MethodName) (head1 (Jvm.Cond.code (⟨"com/example/cross_town/crosstown/solve/NodeHeap", "siftUp", "(II)V"⟩ : MethodName) prog_33_method_5_code 5 none :: ws) ({ frames := 1, cells := 0, slots := 0, locals := 14 } : Room)) (fun a U => a = #[(.ref o0), (.int (0 : Int32)), (.int p2)] ∧ Z.Warmed39 U.vm ∧ U.heap = h0) (fun _ _ _ _ _ => True) (fun _ U o U' => ∃ v L, o = .returned v ∧ Q6n0 Z o0 p2 heap_o0 position_o0 key_o0 y0 y1 y2 P K h0 n0 v U'.heap L ∧ FrameEnd U o U' L ({ frames := 1, cells := 0, slots := 0, locals := 14 } : Room).cells ({ frames := 1, cells := 0, slots := 0, locals := 14 } : Room).slots) := by
  refine MetFree.of_bodySF (plainFor_of_name pn_com_example_cross_town_crosstown_solve_NodeHeap) hisR ?_
  intro p e s m args below meth c s₁ Bd hml0 hP hK
  obtain ⟨rfl, hZ, hh⟩ := hP
  have hx := Bd.exec
  have hby := Bd.bytes
  have hml : c.maxLocals = 5 := hml0
  have hown : s.vm.findClass "com/example/cross_town/crosstown/solve/NodeHeap" = some m.cls := findClass_of_methodNamed Bd.named
  have hnm := (name_of_methodNamed Bd.named Bd.method).1
  have X0 : Stand p l e ({ frames := 1, cells := 0, slots := 0, locals := 14 } : Room) s m #[(.ref o0), (.int (0 : Int32)), (.int p2)] below meth c s₁ [] 0 0 := Stand.of_body Bd
  have eH0 : s₁.heap = h0 := by rw [← hh, Bd.state]; rfl
  have N0 := Fr.nil n0
  have K0 := Keep.refl h0 [position_o0, heap_o0]
  show Gt p.tables e below (fun o U' => ∃ v L, o = .returned v ∧ Q6n0 Z o0 p2 heap_o0 position_o0 key_o0 y0 y1 y2 P K h0 n0 v U'.heap L ∧ FrameEnd s o U' L ({ frames := 1, cells := 0, slots := 0, locals := 14 } : Room).cells ({ frames := 1, cells := 0, slots := 0, locals := 14 } : Room).slots) _
  refine own_cast (ef6n0 m o0 p2) ?_
  refine own_iloadN X0 hx hby rfl d6_0 (pc' := 1) rfl ?_
  refine own_istoreN X0 hx hby (L' := #[.val (.ref o0), .val (.int (0 : Int32)), .val (.int p2), .val (.int (0 : Int32)), .unset]) rfl d6_1 (pc' := 2) rfl ?_
  refine own_iloadN X0 hx hby rfl d6_2 (pc' := 3) rfl ?_
  refine own_ifT X0 hx hby d6_3 (by decide) (by decide) (pc' := 56) (by decide) ?_
  refine own_aloadN X0 hx hby rfl rfl d6_56 (pc' := 57) rfl ?_
  refine own_iloadN X0 hx hby rfl d6_57 (pc' := 58) rfl ?_
  refine own_iloadN X0 hx hby rfl d6_58 (pc' := 59) rfl ?_
  refine own_private X0 hx hby hZ (y := (⟨"com/example/cross_town/crosstown/solve/NodeHeap", "place", "(II)V"⟩ : MethodName)) (rest := []) hown (hw _ (List.mem_of_getElem? (i := 38) rfl)) (hw _ (List.mem_of_getElem? (i := 39) rfl)) (hw _ (List.mem_of_getElem? (i := 1) rfl)) (hw _ (List.mem_of_getElem? (i := 40) rfl)) (hw _ (List.mem_of_getElem? (i := 41) rfl)) (hw _ (List.mem_of_getElem? (i := 2) rfl)) (by decide) (rm70 l Z a0 hw [] o0 p2 heap_o0 position_o0 y0 y1 y2 P h0 n0 Z0 E_o0 F_o0_heap F_o0_position V_heap_o0 V_position_o0 (by first | assumption | rfl | (simp only [List.length_set]; first | assumption | rfl)) rg_p2 g_heap_o0 ne_o0_heap_o0 ne_position_o0_heap_o0 g_position_o0 ne_o0_position_o0) eH0 (by rw [hml]; rfl) (a := o0) E_o0 (argsL := [(.int (0 : Int32)), (.int p2)]) rfl (lenOf pd_1 rfl) rfl d6_59 (pc' := 62) rfl (by decide) (W := 0) (Nat.le_of_eq rfl) (by decide) (by decide) (by decide) (fun T1 h1 Lc1 v1r X1 eH1 hQ1 => ?_)
  obtain ⟨rfl, Nq1, Kq1, gq1_0, gq1_1⟩ := hQ1
  have N1 := Fr.app N0 Nq1
  replace E_o0 := E_o0.keep Kq1
  replace F_o0_heap := F_o0_heap.keep Kq1 (ninS ne_o0_heap_o0 (ninS ne_o0_position_o0 nin0))
  replace F_o0_position := F_o0_position.keep Kq1 (ninS ne_o0_heap_o0 (ninS ne_o0_position_o0 nin0))
  replace F_o0_key := F_o0_key.keep Kq1 (ninS ne_o0_heap_o0 (ninS ne_o0_position_o0 nin0))
  replace V_key_o0 := V_key_o0.keep Kq1 (ninS ne_key_o0_heap_o0 (ninS ne_key_o0_position_o0 nin0))
  replace K0 := K0.trans Kq1 (allS (Or.inl (by simp)) (allS (Or.inl (by simp)) all0))
  have V_heap_o0 := gq1_0
  have hl2 : (P.set p2.toNatClampNeg (0 : Int32)).length = 3 := by (repeat' split) <;> (simp only [List.length_set]; first | assumption | rfl)
  have V_position_o0 := gq1_1
  replace Z0 := Nat.le_trans Z0 Kq1.1
  have HH : Hp1 p2 (P.set p2.toNatClampNeg (0 : Int32)) K := ⟨rg_p2, (by rw [own_pvs hl_P rg_p2 rg_p2, if_pos rfl]; first | done | decide)⟩
  have HA : ∀ z : Int32, (0 ≤ z.toInt ∧ z.toInt < 3) → ¬ p2.toInt = z.toInt → pv P z = -1 → pv (P.set p2.toNatClampNeg (0 : Int32)) z = -1 := fun z rgz hpz hz => (by rw [own_pvs hl_P rg_p2 rgz, if_neg hpz]; exact hz)
  exact own_retV X1 hx hby Bd.notSynchronized Bd.returns d6_62 (by decide) (by decide) eH1 ⟨rfl, N1, K0, V_position_o0, V_heap_o0, HH, HA⟩
theorem ef6n1 (m : MethodId) (x0 : Addr) (x2 : Int32) : entryFrame m #[(.ref x0), (.int (1 : Int32)), (.int x2)] 5 = mkF m 0 #[.val (.ref x0), .val (.int (1 : Int32)), .val (.int x2), .unset, .unset] [] := by first | (simp [entryFrame, mkF, argsToLocals, Value.category]; done) | rfl
def Q6n1 (Z : State) (o0 : Addr) (p2 : Int32) (heap_o0 : Addr) (position_o0 : Addr) (key_o0 : Addr) (y0 : Int32) (y1 : Int32) (y2 : Int32) (P : List Int32) (K : List UInt64) (h0 : Heap) (n0 : Nat) (v : Option Value) (h : Heap) (L : List Loc) : Prop := v = none ∧ Fr n0 L ∧ Keep h0 h [position_o0, heap_o0] ∧ Ary tr Z h position_o0 .int ((if dle (K.getD y0.toNatClampNeg 0) (K.getD p2.toNatClampNeg 0) then (P.set p2.toNatClampNeg (1 : Int32)) else ((P.set y0.toNatClampNeg (1 : Int32)).set p2.toNatClampNeg (0 : Int32))).map Value.int) ∧ Ary tr Z h heap_o0 .int [(.int (if dle (K.getD y0.toNatClampNeg 0) (K.getD p2.toNatClampNeg 0) then y0 else p2)), (.int (if dle (K.getD y0.toNatClampNeg 0) (K.getD p2.toNatClampNeg 0) then p2 else y0)), (.int y2)] ∧ (Hp2 (if dle (K.getD y0.toNatClampNeg 0) (K.getD p2.toNatClampNeg 0) then y0 else p2) (if dle (K.getD y0.toNatClampNeg 0) (K.getD p2.toNatClampNeg 0) then p2 else y0) (if dle (K.getD y0.toNatClampNeg 0) (K.getD p2.toNatClampNeg 0) then (P.set p2.toNatClampNeg (1 : Int32)) else ((P.set y0.toNatClampNeg (1 : Int32)).set p2.toNatClampNeg (0 : Int32))) K) ∧ (∀ z : Int32, (0 ≤ z.toInt ∧ z.toInt < 3) → ¬ p2.toInt = z.toInt → pv P z = -1 → pv (if dle (K.getD y0.toNatClampNeg 0) (K.getD p2.toNatClampNeg 0) then (P.set p2.toNatClampNeg (1 : Int32)) else ((P.set y0.toNatClampNeg (1 : Int32)).set p2.toNatClampNeg (0 : Int32))) z = -1)
set_option maxRecDepth 65536 in
set_option maxHeartbeats 40000000 in
theorem rm6n1 (l : Launch) (Z : State) (a0 : Array Value) (hw : ∀ d ∈ tables_1, d.before a0 Z = true) (ws : List Jvm.Cond) (o0 : Addr) (p2 : Int32) (heap_o0 : Addr) (position_o0 : Addr) (key_o0 : Addr) (y0 : Int32) (y1 : Int32) (y2 : Int32) (P : List Int32) (K : List UInt64) (h0 : Heap) (n0 : Nat) (Z0 : n0 ≤ h0.size) (E_o0 : Exa Z h0 o0 "com/example/cross_town/crosstown/solve/NodeHeap") (F_o0_heap : Fld Z h0 o0 "com/example/cross_town/crosstown/solve/NodeHeap" "heap" "[I" (.ref heap_o0)) (F_o0_position : Fld Z h0 o0 "com/example/cross_town/crosstown/solve/NodeHeap" "position" "[I" (.ref position_o0)) (F_o0_key : Fld Z h0 o0 "com/example/cross_town/crosstown/solve/NodeHeap" "key" "[D" (.ref key_o0)) (V_heap_o0 : Ary tr Z h0 heap_o0 .int [(.int y0), (.int y1), (.int y2)]) (V_position_o0 : Ary tr Z h0 position_o0 .int (P.map Value.int)) (hl_P : (P.length = 3)) (V_key_o0 : Ary tr Z h0 key_o0 .double (K.map Value.double)) (hl_K : (K.length = 3)) (rg_p2 : (0 ≤ p2.toInt ∧ p2.toInt < 3)) (nnk : (NNk K)) (pv_p2 : (pv P p2 = -1)) (rg_y0 : (0 ≤ y0.toInt ∧ y0.toInt < 3)) (pv_y0 : (pv P y0 = 0)) (g_heap_o0 : n0 ≤ heap_o0) (ne_o0_heap_o0 : o0 ≠ heap_o0) (ne_position_o0_heap_o0 : position_o0 ≠ heap_o0) (g_position_o0 : n0 ≤ position_o0) (ne_o0_position_o0 : o0 ≠ position_o0) (ne_key_o0_position_o0 : key_o0 ≠ position_o0) (ne_key_o0_heap_o0 : key_o0 ≠ heap_o0) :
    MetFree l (⟨"com/example/cross_town/crosstown/solve/NodeHeap", "siftUp", "(II)V"⟩ : MethodName) (head1 (Jvm.Cond.code (⟨"com/example/cross_town/crosstown/solve/NodeHeap", "siftUp", "(II)V"⟩ : MethodName) prog_33_method_5_code 5 none :: ws) ({ frames := 1, cells := 0, slots := 0, locals := 14 } : Room)) (fun a U => a = #[(.ref o0), (.int (1 : Int32)), (.int p2)] ∧ Z.Warmed39 U.vm ∧ U.heap = h0) (fun _ _ _ _ _ => True) (fun _ U o U' => ∃ v L, o = .returned v ∧ Q6n1 Z o0 p2 heap_o0 position_o0 key_o0 y0 y1 y2 P K h0 n0 v U'.heap L ∧ FrameEnd U o U' L ({ frames := 1, cells := 0, slots := 0, locals := 14 } : Room).cells ({ frames := 1, cells := 0, slots := 0, locals := 14 } : Room).slots) := by
  refine MetFree.of_bodySF (plainFor_of_name pn_com_example_cross_town_crosstown_solve_NodeHeap) hisR ?_
  intro p e s m args below meth c s₁ Bd hml0 hP hK
  obtain ⟨rfl, hZ, hh⟩ := hP
  have hx := Bd.exec
  have hby := Bd.bytes
  have hml : c.maxLocals = 5 := hml0
  have hown : s.vm.findClass "com/example/cross_town/crosstown/solve/NodeHeap" = some m.cls := findClass_of_methodNamed Bd.named
  have hnm := (name_of_methodNamed Bd.named Bd.method).1
  have X0 : Stand p l e ({ frames := 1, cells := 0, slots := 0, locals := 14 } : Room) s m #[(.ref o0), (.int (1 : Int32)), (.int p2)] below meth c s₁ [] 0 0 := Stand.of_body Bd
  have eH0 : s₁.heap = h0 := by rw [← hh, Bd.state]; rfl
  have N0 := Fr.nil n0
  have K0 := Keep.refl h0 [position_o0, heap_o0]
  show Gt p.tables e below (fun o U' => ∃ v L, o = .returned v ∧ Q6n1 Z o0 p2 heap_o0 position_o0 key_o0 y0 y1 y2 P K h0 n0 v U'.heap L ∧ FrameEnd s o U' L ({ frames := 1, cells := 0, slots := 0, locals := 14 } : Room).cells ({ frames := 1, cells := 0, slots := 0, locals := 14 } : Room).slots) _
  refine own_cast (ef6n1 m o0 p2) ?_
  have d_y0_p2 : ¬ y0.toInt = p2.toInt := own_pne pv_y0 pv_p2 (by decide)
  have d_p2_y0 : ¬ p2.toInt = y0.toInt := own_pne pv_p2 pv_y0 (by decide)
  refine own_iloadN X0 hx hby rfl d6_0 (pc' := 1) rfl ?_
  refine own_istoreN X0 hx hby (L' := #[.val (.ref o0), .val (.int (1 : Int32)), .val (.int p2), .val (.int (1 : Int32)), .unset]) rfl d6_1 (pc' := 2) rfl ?_
  refine own_iloadN X0 hx hby rfl d6_2 (pc' := 3) rfl ?_
  refine own_ifF X0 hx hby d6_3 (by decide) (pc' := 6) rfl ?_
  refine own_iloadN X0 hx hby rfl d6_6 (pc' := 7) rfl ?_
  refine own_iconst X0 hx hby (v := (1 : Int32)) (by decide) d6_7 (pc' := 8) rfl ?_
  refine own_isub X0 hx hby (v := (0 : Int32)) (by decide) d6_8 (pc' := 9) rfl ?_
  refine own_iconst X0 hx hby (v := (2 : Int32)) (by decide) d6_9 (pc' := 10) rfl ?_
  refine own_idiv X0 hx hby (by decide) (v := (0 : Int32)) (by decide) d6_10 (pc' := 11) rfl ?_
  refine own_istore X0 hx hby (L' := #[.val (.ref o0), .val (.int (1 : Int32)), .val (.int p2), .val (.int (1 : Int32)), .val (.int (0 : Int32))]) rfl d6_11 (pc' := 13) rfl ?_
  refine own_aloadN X0 hx hby rfl rfl d6_13 (pc' := 14) rfl ?_
  refine own_getF X0 hx hby hZ hown (host := "") (Or.inl (hw _ (List.mem_of_getElem? (i := 15) rfl))) Via.refl eH0 F_o0_key d6_14 (pc' := 17) rfl (fun T1 X1 eH1 => ?_)
  refine own_aloadN X1 hx hby rfl rfl d6_17 (pc' := 18) rfl ?_
  refine own_getF X1 hx hby hZ hown (host := "") (Or.inl (hw _ (List.mem_of_getElem? (i := 10) rfl))) Via.refl eH1 F_o0_heap d6_18 (pc' := 21) rfl (fun T2 X2 eH2 => ?_)
  refine own_iload X2 hx hby rfl d6_21 (pc' := 23) rfl ?_
  refine own_iaload X2 hx hby hZ eH2 V_heap_o0 (by decide) (v := (.int y0)) rfl d6_23 (pc' := 24) rfl ?_
  refine own_daload X2 hx hby hZ eH2 V_key_o0 (own_rg0 rg_y0) (v := (.double (K.getD y0.toNatClampNeg 0))) (own_lget (own_rgl rg_y0 hl_K)) d6_24 (pc' := 25) rfl ?_
  refine own_aloadN X2 hx hby rfl rfl d6_25 (pc' := 26) rfl ?_
  refine own_getF X2 hx hby hZ hown (host := "") (Or.inl (hw _ (List.mem_of_getElem? (i := 15) rfl))) Via.refl eH2 F_o0_key d6_26 (pc' := 29) rfl (fun T3 X3 eH3 => ?_)
  refine own_iloadN X3 hx hby rfl d6_29 (pc' := 30) rfl ?_
  refine own_daload X3 hx hby hZ eH3 V_key_o0 (own_rg0 rg_p2) (v := (.double (K.getD p2.toNatClampNeg 0))) (own_lget (own_rgl rg_p2 hl_K)) d6_30 (pc' := 31) rfl ?_
  refine own_dcmp X3 hx hby rfl d6_31 (pc' := 32) rfl ?_
  by_cases hc4 : dle (K.getD y0.toNatClampNeg 0) (K.getD p2.toNatClampNeg 0)
  · refine own_ifF X3 hx hby d6_32 (own_dg_gt_p hc4) (pc' := 35) rfl ?_
    refine own_goto X3 hx hby d6_35 (by decide) (pc' := 56) (by decide) ?_
    refine own_aloadN X3 hx hby rfl rfl d6_56 (pc' := 57) rfl ?_
    refine own_iloadN X3 hx hby rfl d6_57 (pc' := 58) rfl ?_
    refine own_iloadN X3 hx hby rfl d6_58 (pc' := 59) rfl ?_
    refine own_private X3 hx hby hZ (y := (⟨"com/example/cross_town/crosstown/solve/NodeHeap", "place", "(II)V"⟩ : MethodName)) (rest := []) hown (hw _ (List.mem_of_getElem? (i := 38) rfl)) (hw _ (List.mem_of_getElem? (i := 39) rfl)) (hw _ (List.mem_of_getElem? (i := 1) rfl)) (hw _ (List.mem_of_getElem? (i := 40) rfl)) (hw _ (List.mem_of_getElem? (i := 41) rfl)) (hw _ (List.mem_of_getElem? (i := 2) rfl)) (by decide) (rm71 l Z a0 hw [] o0 p2 heap_o0 position_o0 y0 y1 y2 P h0 n0 Z0 E_o0 F_o0_heap F_o0_position V_heap_o0 V_position_o0 (by first | assumption | rfl | (simp only [List.length_set]; first | assumption | rfl)) rg_p2 g_heap_o0 ne_o0_heap_o0 ne_position_o0_heap_o0 g_position_o0 ne_o0_position_o0) eH3 (by rw [hml]; rfl) (a := o0) E_o0 (argsL := [(.int (1 : Int32)), (.int p2)]) rfl (lenOf pd_1 rfl) rfl d6_59 (pc' := 62) rfl (by decide) (W := 0) (Nat.le_of_eq rfl) (by decide) (by decide) (by decide) (fun T5 h5 Lc5 v5r X5 eH5 hQ5 => ?_)
    obtain ⟨rfl, Nq5, Kq5, gq5_0, gq5_1⟩ := hQ5
    have N5 := Fr.app N0 Nq5
    replace E_o0 := E_o0.keep Kq5
    replace F_o0_heap := F_o0_heap.keep Kq5 (ninS ne_o0_heap_o0 (ninS ne_o0_position_o0 nin0))
    replace F_o0_position := F_o0_position.keep Kq5 (ninS ne_o0_heap_o0 (ninS ne_o0_position_o0 nin0))
    replace F_o0_key := F_o0_key.keep Kq5 (ninS ne_o0_heap_o0 (ninS ne_o0_position_o0 nin0))
    replace V_key_o0 := V_key_o0.keep Kq5 (ninS ne_key_o0_heap_o0 (ninS ne_key_o0_position_o0 nin0))
    replace K0 := K0.trans Kq5 (allS (Or.inl (by simp)) (allS (Or.inl (by simp)) all0))
    have V_heap_o0 := gq5_0
    have hl6 : (P.set p2.toNatClampNeg (1 : Int32)).length = 3 := by (repeat' split) <;> (simp only [List.length_set]; first | assumption | rfl)
    have V_position_o0 := gq5_1
    replace Z0 := Nat.le_trans Z0 Kq5.1
    have o0 := (own_kle nnk y0 p2).mp hc4
    have HH : Hp2 y0 p2 (P.set p2.toNatClampNeg (1 : Int32)) K := ⟨rg_y0, rg_p2, (by rw [own_pvs hl_P rg_p2 rg_y0, if_neg d_p2_y0]; exact pv_y0), (by rw [own_pvs hl_P rg_p2 rg_p2, if_pos rfl]; first | done | decide), (by omega)⟩
    have HA : ∀ z : Int32, (0 ≤ z.toInt ∧ z.toInt < 3) → ¬ p2.toInt = z.toInt → pv P z = -1 → pv (P.set p2.toNatClampNeg (1 : Int32)) z = -1 := fun z rgz hpz hz => (by rw [own_pvs hl_P rg_p2 rgz, if_neg hpz]; exact hz)
    exact own_retV X5 hx hby Bd.notSynchronized Bd.returns d6_62 (by decide) (by decide) eH5 ⟨rfl, N5, K0, (by simp only [if_pos hc4]; exact V_position_o0), (by simp only [if_pos hc4]; exact V_heap_o0), (by simp only [if_pos hc4]; exact HH), (by simp only [if_pos hc4]; exact HA)⟩
  · refine own_ifT X3 hx hby d6_32 (own_dg_gt_n hc4) (by decide) (pc' := 38) (by decide) ?_
    refine own_aloadN X3 hx hby rfl rfl d6_38 (pc' := 39) rfl ?_
    refine own_iloadN X3 hx hby rfl d6_39 (pc' := 40) rfl ?_
    refine own_aloadN X3 hx hby rfl rfl d6_40 (pc' := 41) rfl ?_
    refine own_getF X3 hx hby hZ hown (host := "") (Or.inl (hw _ (List.mem_of_getElem? (i := 10) rfl))) Via.refl eH3 F_o0_heap d6_41 (pc' := 44) rfl (fun T7 X7 eH7 => ?_)
    refine own_iload X7 hx hby rfl d6_44 (pc' := 46) rfl ?_
    refine own_iaload X7 hx hby hZ eH7 V_heap_o0 (by decide) (v := (.int y0)) rfl d6_46 (pc' := 47) rfl ?_
    refine own_private X7 hx hby hZ (y := (⟨"com/example/cross_town/crosstown/solve/NodeHeap", "place", "(II)V"⟩ : MethodName)) (rest := []) hown (hw _ (List.mem_of_getElem? (i := 38) rfl)) (hw _ (List.mem_of_getElem? (i := 39) rfl)) (hw _ (List.mem_of_getElem? (i := 1) rfl)) (hw _ (List.mem_of_getElem? (i := 40) rfl)) (hw _ (List.mem_of_getElem? (i := 41) rfl)) (hw _ (List.mem_of_getElem? (i := 2) rfl)) (by decide) (rm71 l Z a0 hw [] o0 y0 heap_o0 position_o0 y0 y1 y2 P h0 n0 Z0 E_o0 F_o0_heap F_o0_position V_heap_o0 V_position_o0 (by first | assumption | rfl | (simp only [List.length_set]; first | assumption | rfl)) rg_y0 g_heap_o0 ne_o0_heap_o0 ne_position_o0_heap_o0 g_position_o0 ne_o0_position_o0) eH7 (by rw [hml]; rfl) (a := o0) E_o0 (argsL := [(.int (1 : Int32)), (.int y0)]) rfl (lenOf pd_1 rfl) rfl d6_47 (pc' := 50) rfl (by decide) (W := 0) (Nat.le_of_eq rfl) (by decide) (by decide) (by decide) (fun T8 h8 Lc8 v8r X8 eH8 hQ8 => ?_)
    obtain ⟨rfl, Nq8, Kq8, gq8_0, gq8_1⟩ := hQ8
    have N8 := Fr.app N0 Nq8
    replace E_o0 := E_o0.keep Kq8
    replace F_o0_heap := F_o0_heap.keep Kq8 (ninS ne_o0_heap_o0 (ninS ne_o0_position_o0 nin0))
    replace F_o0_position := F_o0_position.keep Kq8 (ninS ne_o0_heap_o0 (ninS ne_o0_position_o0 nin0))
    replace F_o0_key := F_o0_key.keep Kq8 (ninS ne_o0_heap_o0 (ninS ne_o0_position_o0 nin0))
    replace V_key_o0 := V_key_o0.keep Kq8 (ninS ne_key_o0_heap_o0 (ninS ne_key_o0_position_o0 nin0))
    replace K0 := K0.trans Kq8 (allS (Or.inl (by simp)) (allS (Or.inl (by simp)) all0))
    have V_heap_o0 := gq8_0
    have hl9 : (P.set y0.toNatClampNeg (1 : Int32)).length = 3 := by (repeat' split) <;> (simp only [List.length_set]; first | assumption | rfl)
    have V_position_o0 := gq8_1
    replace Z0 := Nat.le_trans Z0 Kq8.1
    refine own_iload X8 hx hby rfl d6_50 (pc' := 52) rfl ?_
    refine own_istoreN X8 hx hby (L' := #[.val (.ref o0), .val (.int (1 : Int32)), .val (.int p2), .val (.int (0 : Int32)), .val (.int (0 : Int32))]) rfl d6_52 (pc' := 53) rfl ?_
    refine own_goto X8 hx hby d6_53 (by decide) (pc' := 2) (by decide) ?_
    refine own_iloadN X8 hx hby rfl d6_2 (pc' := 3) rfl ?_
    refine own_ifT X8 hx hby d6_3 (by decide) (by decide) (pc' := 56) (by decide) ?_
    refine own_aloadN X8 hx hby rfl rfl d6_56 (pc' := 57) rfl ?_
    refine own_iloadN X8 hx hby rfl d6_57 (pc' := 58) rfl ?_
    refine own_iloadN X8 hx hby rfl d6_58 (pc' := 59) rfl ?_
    refine own_private X8 hx hby hZ (y := (⟨"com/example/cross_town/crosstown/solve/NodeHeap", "place", "(II)V"⟩ : MethodName)) (rest := []) hown (hw _ (List.mem_of_getElem? (i := 38) rfl)) (hw _ (List.mem_of_getElem? (i := 39) rfl)) (hw _ (List.mem_of_getElem? (i := 1) rfl)) (hw _ (List.mem_of_getElem? (i := 40) rfl)) (hw _ (List.mem_of_getElem? (i := 41) rfl)) (hw _ (List.mem_of_getElem? (i := 2) rfl)) (by decide) (rm70 l Z a0 hw [] o0 p2 heap_o0 position_o0 y0 y0 y2 (P.set y0.toNatClampNeg (1 : Int32)) h8 n0 Z0 E_o0 F_o0_heap F_o0_position V_heap_o0 V_position_o0 (by first | assumption | rfl | (simp only [List.length_set]; first | assumption | rfl)) rg_p2 g_heap_o0 ne_o0_heap_o0 ne_position_o0_heap_o0 g_position_o0 ne_o0_position_o0) eH8 (by rw [hml]; rfl) (a := o0) E_o0 (argsL := [(.int (0 : Int32)), (.int p2)]) rfl (lenOf pd_1 rfl) rfl d6_59 (pc' := 62) rfl (by decide) (W := 0) (Nat.le_of_eq rfl) (by decide) (by decide) (by decide) (fun T10 h10 Lc10 v10r X10 eH10 hQ10 => ?_)
    obtain ⟨rfl, Nq10, Kq10, gq10_0, gq10_1⟩ := hQ10
    have N10 := Fr.app N8 Nq10
    replace E_o0 := E_o0.keep Kq10
    replace F_o0_heap := F_o0_heap.keep Kq10 (ninS ne_o0_heap_o0 (ninS ne_o0_position_o0 nin0))
    replace F_o0_position := F_o0_position.keep Kq10 (ninS ne_o0_heap_o0 (ninS ne_o0_position_o0 nin0))
    replace F_o0_key := F_o0_key.keep Kq10 (ninS ne_o0_heap_o0 (ninS ne_o0_position_o0 nin0))
    replace V_key_o0 := V_key_o0.keep Kq10 (ninS ne_key_o0_heap_o0 (ninS ne_key_o0_position_o0 nin0))
    replace K0 := K0.trans Kq10 (allS (Or.inl (by simp)) (allS (Or.inl (by simp)) all0))
    have V_heap_o0 := gq10_0
    have hl11 : ((P.set y0.toNatClampNeg (1 : Int32)).set p2.toNatClampNeg (0 : Int32)).length = 3 := by (repeat' split) <;> (simp only [List.length_set]; first | assumption | rfl)
    have V_position_o0 := gq10_1
    replace Z0 := Nat.le_trans Z0 Kq10.1
    have o0 := mt (own_kle nnk y0 p2).mpr hc4
    have HH : Hp2 p2 y0 ((P.set y0.toNatClampNeg (1 : Int32)).set p2.toNatClampNeg (0 : Int32)) K := ⟨rg_p2, rg_y0, (by rw [own_pvs (by simp only [List.length_set]; exact hl_P) rg_p2 rg_p2, if_pos rfl]; first | done | decide), (by rw [own_pvs (by simp only [List.length_set]; exact hl_P) rg_p2 rg_y0, if_neg d_p2_y0, own_pvs hl_P rg_y0 rg_y0, if_pos rfl]; first | done | decide), (by omega)⟩
    have HA : ∀ z : Int32, (0 ≤ z.toInt ∧ z.toInt < 3) → ¬ p2.toInt = z.toInt → pv P z = -1 → pv ((P.set y0.toNatClampNeg (1 : Int32)).set p2.toNatClampNeg (0 : Int32)) z = -1 := fun z rgz hpz hz => (by rw [own_pvs (by simp only [List.length_set]; exact hl_P) rg_p2 rgz, if_neg hpz, own_pvs hl_P rg_y0 rgz, if_neg (own_pne pv_y0 hz (by decide))]; exact hz)
    exact own_retV X10 hx hby Bd.notSynchronized Bd.returns d6_62 (by decide) (by decide) eH10 ⟨rfl, N10, K0, (by simp only [if_neg hc4]; exact V_position_o0), (by simp only [if_neg hc4]; exact V_heap_o0), (by simp only [if_neg hc4]; exact HH), (by simp only [if_neg hc4]; exact HA)⟩
theorem ef6l10 (m : MethodId) (x0 : Addr) (x2 : Int32) : entryFrame m #[(.ref x0), (.int (0 : Int32)), (.int x2)] 5 = mkF m 0 #[.val (.ref x0), .val (.int (0 : Int32)), .val (.int x2), .unset, .unset] [] := by first | (simp [entryFrame, mkF, argsToLocals, Value.category]; done) | rfl
def Q6l10 (Z : State) (o0 : Addr) (p2 : Int32) (heap_o0 : Addr) (position_o0 : Addr) (key_o0 : Addr) (y1 : Int32) (y2 : Int32) (P : List Int32) (K : List UInt64) (h0 : Heap) (n0 : Nat) (v : Option Value) (h : Heap) (L : List Loc) : Prop := v = none ∧ Fr n0 L ∧ Keep h0 h [position_o0, heap_o0] ∧ Ary tr Z h position_o0 .int ((P.set p2.toNatClampNeg (0 : Int32)).map Value.int) ∧ Ary tr Z h heap_o0 .int [(.int p2), (.int y1), (.int y2)] ∧ (Hp1 p2 (P.set p2.toNatClampNeg (0 : Int32)) K)
set_option maxRecDepth 65536 in
set_option maxHeartbeats 40000000 in
theorem rm6l10 (l : Launch) (Z : State) (a0 : Array Value) (hw : ∀ d ∈ tables_1, d.before a0 Z = true) (ws : List Jvm.Cond) (o0 : Addr) (p2 : Int32) (heap_o0 : Addr) (position_o0 : Addr) (key_o0 : Addr) (y1 : Int32) (y2 : Int32) (P : List Int32) (K : List UInt64) (h0 : Heap) (n0 : Nat) (Z0 : n0 ≤ h0.size) (E_o0 : Exa Z h0 o0 "com/example/cross_town/crosstown/solve/NodeHeap") (F_o0_heap : Fld Z h0 o0 "com/example/cross_town/crosstown/solve/NodeHeap" "heap" "[I" (.ref heap_o0)) (F_o0_position : Fld Z h0 o0 "com/example/cross_town/crosstown/solve/NodeHeap" "position" "[I" (.ref position_o0)) (F_o0_key : Fld Z h0 o0 "com/example/cross_town/crosstown/solve/NodeHeap" "key" "[D" (.ref key_o0)) (V_heap_o0 : Ary tr Z h0 heap_o0 .int [(.int p2), (.int y1), (.int y2)]) (V_position_o0 : Ary tr Z h0 position_o0 .int (P.map Value.int)) (hl_P : (P.length = 3)) (V_key_o0 : Ary tr Z h0 key_o0 .double (K.map Value.double)) (hl_K : (K.length = 3)) (nnk : (NNk K)) (rg_p2 : (0 ≤ p2.toInt ∧ p2.toInt < 3)) (pv_p2 : (pv P p2 = 0)) (g_heap_o0 : n0 ≤ heap_o0) (ne_o0_heap_o0 : o0 ≠ heap_o0) (ne_position_o0_heap_o0 : position_o0 ≠ heap_o0) (g_position_o0 : n0 ≤ position_o0) (ne_o0_position_o0 : o0 ≠ position_o0) (ne_key_o0_position_o0 : key_o0 ≠ position_o0) (ne_key_o0_heap_o0 : key_o0 ≠ heap_o0) :
    MetFree l (⟨"com/example/cross_town/crosstown/solve/NodeHeap", "siftUp", "(II)V"⟩ : MethodName) (head1 (Jvm.Cond.code (⟨"com/example/cross_town/crosstown/solve/NodeHeap", "siftUp", "(II)V"⟩ : MethodName) prog_33_method_5_code 5 none :: ws) ({ frames := 1, cells := 0, slots := 0, locals := 14 } : Room)) (fun a U => a = #[(.ref o0), (.int (0 : Int32)), (.int p2)] ∧ Z.Warmed39 U.vm ∧ U.heap = h0) (fun _ _ _ _ _ => True) (fun _ U o U' => ∃ v L, o = .returned v ∧ Q6l10 Z o0 p2 heap_o0 position_o0 key_o0 y1 y2 P K h0 n0 v U'.heap L ∧ FrameEnd U o U' L ({ frames := 1, cells := 0, slots := 0, locals := 14 } : Room).cells ({ frames := 1, cells := 0, slots := 0, locals := 14 } : Room).slots) := by
  refine MetFree.of_bodySF (plainFor_of_name pn_com_example_cross_town_crosstown_solve_NodeHeap) hisR ?_
  intro p e s m args below meth c s₁ Bd hml0 hP hK
  obtain ⟨rfl, hZ, hh⟩ := hP
  have hx := Bd.exec
  have hby := Bd.bytes
  have hml : c.maxLocals = 5 := hml0
  have hown : s.vm.findClass "com/example/cross_town/crosstown/solve/NodeHeap" = some m.cls := findClass_of_methodNamed Bd.named
  have hnm := (name_of_methodNamed Bd.named Bd.method).1
  have X0 : Stand p l e ({ frames := 1, cells := 0, slots := 0, locals := 14 } : Room) s m #[(.ref o0), (.int (0 : Int32)), (.int p2)] below meth c s₁ [] 0 0 := Stand.of_body Bd
  have eH0 : s₁.heap = h0 := by rw [← hh, Bd.state]; rfl
  have N0 := Fr.nil n0
  have K0 := Keep.refl h0 [position_o0, heap_o0]
  show Gt p.tables e below (fun o U' => ∃ v L, o = .returned v ∧ Q6l10 Z o0 p2 heap_o0 position_o0 key_o0 y1 y2 P K h0 n0 v U'.heap L ∧ FrameEnd s o U' L ({ frames := 1, cells := 0, slots := 0, locals := 14 } : Room).cells ({ frames := 1, cells := 0, slots := 0, locals := 14 } : Room).slots) _
  refine own_cast (ef6l10 m o0 p2) ?_
  refine own_iloadN X0 hx hby rfl d6_0 (pc' := 1) rfl ?_
  refine own_istoreN X0 hx hby (L' := #[.val (.ref o0), .val (.int (0 : Int32)), .val (.int p2), .val (.int (0 : Int32)), .unset]) rfl d6_1 (pc' := 2) rfl ?_
  refine own_iloadN X0 hx hby rfl d6_2 (pc' := 3) rfl ?_
  refine own_ifT X0 hx hby d6_3 (by decide) (by decide) (pc' := 56) (by decide) ?_
  refine own_aloadN X0 hx hby rfl rfl d6_56 (pc' := 57) rfl ?_
  refine own_iloadN X0 hx hby rfl d6_57 (pc' := 58) rfl ?_
  refine own_iloadN X0 hx hby rfl d6_58 (pc' := 59) rfl ?_
  refine own_private X0 hx hby hZ (y := (⟨"com/example/cross_town/crosstown/solve/NodeHeap", "place", "(II)V"⟩ : MethodName)) (rest := []) hown (hw _ (List.mem_of_getElem? (i := 38) rfl)) (hw _ (List.mem_of_getElem? (i := 39) rfl)) (hw _ (List.mem_of_getElem? (i := 1) rfl)) (hw _ (List.mem_of_getElem? (i := 40) rfl)) (hw _ (List.mem_of_getElem? (i := 41) rfl)) (hw _ (List.mem_of_getElem? (i := 2) rfl)) (by decide) (rm70 l Z a0 hw [] o0 p2 heap_o0 position_o0 p2 y1 y2 P h0 n0 Z0 E_o0 F_o0_heap F_o0_position V_heap_o0 V_position_o0 (by first | assumption | rfl | (simp only [List.length_set]; first | assumption | rfl)) rg_p2 g_heap_o0 ne_o0_heap_o0 ne_position_o0_heap_o0 g_position_o0 ne_o0_position_o0) eH0 (by rw [hml]; rfl) (a := o0) E_o0 (argsL := [(.int (0 : Int32)), (.int p2)]) rfl (lenOf pd_1 rfl) rfl d6_59 (pc' := 62) rfl (by decide) (W := 0) (Nat.le_of_eq rfl) (by decide) (by decide) (by decide) (fun T1 h1 Lc1 v1r X1 eH1 hQ1 => ?_)
  obtain ⟨rfl, Nq1, Kq1, gq1_0, gq1_1⟩ := hQ1
  have N1 := Fr.app N0 Nq1
  replace E_o0 := E_o0.keep Kq1
  replace F_o0_heap := F_o0_heap.keep Kq1 (ninS ne_o0_heap_o0 (ninS ne_o0_position_o0 nin0))
  replace F_o0_position := F_o0_position.keep Kq1 (ninS ne_o0_heap_o0 (ninS ne_o0_position_o0 nin0))
  replace F_o0_key := F_o0_key.keep Kq1 (ninS ne_o0_heap_o0 (ninS ne_o0_position_o0 nin0))
  replace V_key_o0 := V_key_o0.keep Kq1 (ninS ne_key_o0_heap_o0 (ninS ne_key_o0_position_o0 nin0))
  replace K0 := K0.trans Kq1 (allS (Or.inl (by simp)) (allS (Or.inl (by simp)) all0))
  have V_heap_o0 := gq1_0
  have hl2 : (P.set p2.toNatClampNeg (0 : Int32)).length = 3 := by (repeat' split) <;> (simp only [List.length_set]; first | assumption | rfl)
  have V_position_o0 := gq1_1
  replace Z0 := Nat.le_trans Z0 Kq1.1
  have HH : Hp1 p2 (P.set p2.toNatClampNeg (0 : Int32)) K := ⟨rg_p2, (by rw [own_pvs hl_P rg_p2 rg_p2, if_pos rfl]; first | done | decide)⟩
  exact own_retV X1 hx hby Bd.notSynchronized Bd.returns d6_62 (by decide) (by decide) eH1 ⟨rfl, N1, K0, V_position_o0, V_heap_o0, HH⟩
theorem ef91 (m : MethodId) (x0 : Addr) (x2 : Int32) : entryFrame m #[(.ref x0), (.int (0 : Int32)), (.int x2)] 5 = mkF m 0 #[.val (.ref x0), .val (.int (0 : Int32)), .val (.int x2), .unset, .unset] [] := by first | (simp [entryFrame, mkF, argsToLocals, Value.category]; done) | rfl
def Q91 (Z : State) (o0 : Addr) (p2 : Int32) (heap_o0 : Addr) (position_o0 : Addr) (key_o0 : Addr) (y0 : Int32) (y1 : Int32) (y2 : Int32) (P : List Int32) (K : List UInt64) (h0 : Heap) (n0 : Nat) (v : Option Value) (h : Heap) (L : List Loc) : Prop := v = none ∧ Fr n0 L ∧ Keep h0 h [position_o0, heap_o0] ∧ Ary tr Z h position_o0 .int ((P.set p2.toNatClampNeg (0 : Int32)).map Value.int) ∧ Ary tr Z h heap_o0 .int [(.int p2), (.int y1), (.int y2)] ∧ (Hp1 p2 (P.set p2.toNatClampNeg (0 : Int32)) K) ∧ (∀ z : Int32, (0 ≤ z.toInt ∧ z.toInt < 3) → pv P z = -1 → pv (P.set p2.toNatClampNeg (0 : Int32)) z = -1) ∧ (∀ m : Int, m ≤ kv K p2 → m ≤ kv K p2)
set_option maxRecDepth 65536 in
set_option maxHeartbeats 40000000 in
theorem rm91 (l : Launch) (Z : State) (a0 : Array Value) (hw : ∀ d ∈ tables_1, d.before a0 Z = true) (ws : List Jvm.Cond) (o0 : Addr) (p2 : Int32) (heap_o0 : Addr) (position_o0 : Addr) (key_o0 : Addr) (y0 : Int32) (y1 : Int32) (y2 : Int32) (P : List Int32) (K : List UInt64) (h0 : Heap) (n0 : Nat) (Z0 : n0 ≤ h0.size) (E_o0 : Exa Z h0 o0 "com/example/cross_town/crosstown/solve/NodeHeap") (F_o0_heap : Fld Z h0 o0 "com/example/cross_town/crosstown/solve/NodeHeap" "heap" "[I" (.ref heap_o0)) (F_o0_position : Fld Z h0 o0 "com/example/cross_town/crosstown/solve/NodeHeap" "position" "[I" (.ref position_o0)) (F_o0_key : Fld Z h0 o0 "com/example/cross_town/crosstown/solve/NodeHeap" "key" "[D" (.ref key_o0)) (V_heap_o0 : Ary tr Z h0 heap_o0 .int [(.int y0), (.int y1), (.int y2)]) (V_position_o0 : Ary tr Z h0 position_o0 .int (P.map Value.int)) (hl_P : (P.length = 3)) (V_key_o0 : Ary tr Z h0 key_o0 .double (K.map Value.double)) (hl_K : (K.length = 3)) (F_o0_size : Fld Z h0 o0 "com/example/cross_town/crosstown/solve/NodeHeap" "size" "I" (.int (1 : Int32))) (rg_p2 : (0 ≤ p2.toInt ∧ p2.toInt < 3)) (nnk : (NNk K)) (pv_p2 : (pv P p2 = 1)) (g_heap_o0 : n0 ≤ heap_o0) (ne_o0_heap_o0 : o0 ≠ heap_o0) (ne_position_o0_heap_o0 : position_o0 ≠ heap_o0) (g_position_o0 : n0 ≤ position_o0) (ne_o0_position_o0 : o0 ≠ position_o0) (ne_key_o0_position_o0 : key_o0 ≠ position_o0) (ne_key_o0_heap_o0 : key_o0 ≠ heap_o0) :
    MetFree l (⟨"com/example/cross_town/crosstown/solve/NodeHeap", "siftDown", "(II)V"⟩ : MethodName) (head1 (Jvm.Cond.code (⟨"com/example/cross_town/crosstown/solve/NodeHeap", "siftDown", "(II)V"⟩ : MethodName) prog_33_method_6_code 5 none :: ws) ({ frames := 1, cells := 0, slots := 0, locals := 14 } : Room)) (fun a U => a = #[(.ref o0), (.int (0 : Int32)), (.int p2)] ∧ Z.Warmed39 U.vm ∧ U.heap = h0) (fun _ _ _ _ _ => True) (fun _ U o U' => ∃ v L, o = .returned v ∧ Q91 Z o0 p2 heap_o0 position_o0 key_o0 y0 y1 y2 P K h0 n0 v U'.heap L ∧ FrameEnd U o U' L ({ frames := 1, cells := 0, slots := 0, locals := 14 } : Room).cells ({ frames := 1, cells := 0, slots := 0, locals := 14 } : Room).slots) := by
  refine MetFree.of_bodySF (plainFor_of_name pn_com_example_cross_town_crosstown_solve_NodeHeap) hisR ?_
  intro p e s m args below meth c s₁ Bd hml0 hP hK
  obtain ⟨rfl, hZ, hh⟩ := hP
  have hx := Bd.exec
  have hby := Bd.bytes
  have hml : c.maxLocals = 5 := hml0
  have hown : s.vm.findClass "com/example/cross_town/crosstown/solve/NodeHeap" = some m.cls := findClass_of_methodNamed Bd.named
  have hnm := (name_of_methodNamed Bd.named Bd.method).1
  have X0 : Stand p l e ({ frames := 1, cells := 0, slots := 0, locals := 14 } : Room) s m #[(.ref o0), (.int (0 : Int32)), (.int p2)] below meth c s₁ [] 0 0 := Stand.of_body Bd
  have eH0 : s₁.heap = h0 := by rw [← hh, Bd.state]; rfl
  have N0 := Fr.nil n0
  have K0 := Keep.refl h0 [position_o0, heap_o0]
  show Gt p.tables e below (fun o U' => ∃ v L, o = .returned v ∧ Q91 Z o0 p2 heap_o0 position_o0 key_o0 y0 y1 y2 P K h0 n0 v U'.heap L ∧ FrameEnd s o U' L ({ frames := 1, cells := 0, slots := 0, locals := 14 } : Room).cells ({ frames := 1, cells := 0, slots := 0, locals := 14 } : Room).slots) _
  refine own_cast (ef91 m o0 p2) ?_
  refine own_iloadN X0 hx hby rfl d9_0 (pc' := 1) rfl ?_
  refine own_istoreN X0 hx hby (L' := #[.val (.ref o0), .val (.int (0 : Int32)), .val (.int p2), .val (.int (0 : Int32)), .unset]) rfl d9_1 (pc' := 2) rfl ?_
  refine own_iconst X0 hx hby (v := (2 : Int32)) (by decide) d9_2 (pc' := 3) rfl ?_
  refine own_iloadN X0 hx hby rfl d9_3 (pc' := 4) rfl ?_
  refine own_imul X0 hx hby (v := (0 : Int32)) (by decide) d9_4 (pc' := 5) rfl ?_
  refine own_iconst X0 hx hby (v := (1 : Int32)) (by decide) d9_5 (pc' := 6) rfl ?_
  refine own_iadd X0 hx hby (v := (1 : Int32)) (by decide) d9_6 (pc' := 7) rfl ?_
  refine own_aloadN X0 hx hby rfl rfl d9_7 (pc' := 8) rfl ?_
  refine own_getF X0 hx hby hZ hown (host := "") (Or.inl (hw _ (List.mem_of_getElem? (i := 26) rfl))) Via.refl eH0 F_o0_size d9_8 (pc' := 11) rfl (fun T1 X1 eH1 => ?_)
  refine own_icT X1 hx hby d9_11 (by decide) (by decide) (pc' := 108) (by decide) ?_
  refine own_aloadN X1 hx hby rfl rfl d9_108 (pc' := 109) rfl ?_
  refine own_iloadN X1 hx hby rfl d9_109 (pc' := 110) rfl ?_
  refine own_iloadN X1 hx hby rfl d9_110 (pc' := 111) rfl ?_
  refine own_private X1 hx hby hZ (y := (⟨"com/example/cross_town/crosstown/solve/NodeHeap", "place", "(II)V"⟩ : MethodName)) (rest := []) hown (hw _ (List.mem_of_getElem? (i := 38) rfl)) (hw _ (List.mem_of_getElem? (i := 39) rfl)) (hw _ (List.mem_of_getElem? (i := 1) rfl)) (hw _ (List.mem_of_getElem? (i := 40) rfl)) (hw _ (List.mem_of_getElem? (i := 41) rfl)) (hw _ (List.mem_of_getElem? (i := 2) rfl)) (by decide) (rm70 l Z a0 hw [] o0 p2 heap_o0 position_o0 y0 y1 y2 P h0 n0 Z0 E_o0 F_o0_heap F_o0_position V_heap_o0 V_position_o0 (by first | assumption | rfl | (simp only [List.length_set]; first | assumption | rfl)) rg_p2 g_heap_o0 ne_o0_heap_o0 ne_position_o0_heap_o0 g_position_o0 ne_o0_position_o0) eH1 (by rw [hml]; rfl) (a := o0) E_o0 (argsL := [(.int (0 : Int32)), (.int p2)]) rfl (lenOf pd_1 rfl) rfl d9_111 (pc' := 114) rfl (by decide) (W := 0) (Nat.le_of_eq rfl) (by decide) (by decide) (by decide) (fun T2 h2 Lc2 v2r X2 eH2 hQ2 => ?_)
  obtain ⟨rfl, Nq2, Kq2, gq2_0, gq2_1⟩ := hQ2
  have N2 := Fr.app N0 Nq2
  replace E_o0 := E_o0.keep Kq2
  replace F_o0_heap := F_o0_heap.keep Kq2 (ninS ne_o0_heap_o0 (ninS ne_o0_position_o0 nin0))
  replace F_o0_position := F_o0_position.keep Kq2 (ninS ne_o0_heap_o0 (ninS ne_o0_position_o0 nin0))
  replace F_o0_key := F_o0_key.keep Kq2 (ninS ne_o0_heap_o0 (ninS ne_o0_position_o0 nin0))
  replace F_o0_size := F_o0_size.keep Kq2 (ninS ne_o0_heap_o0 (ninS ne_o0_position_o0 nin0))
  replace V_key_o0 := V_key_o0.keep Kq2 (ninS ne_key_o0_heap_o0 (ninS ne_key_o0_position_o0 nin0))
  replace K0 := K0.trans Kq2 (allS (Or.inl (by simp)) (allS (Or.inl (by simp)) all0))
  have V_heap_o0 := gq2_0
  have hl3 : (P.set p2.toNatClampNeg (0 : Int32)).length = 3 := by (repeat' split) <;> (simp only [List.length_set]; first | assumption | rfl)
  have V_position_o0 := gq2_1
  replace Z0 := Nat.le_trans Z0 Kq2.1
  have HH : Hp1 p2 (P.set p2.toNatClampNeg (0 : Int32)) K := ⟨rg_p2, (by rw [own_pvs hl_P rg_p2 rg_p2, if_pos rfl]; first | done | decide)⟩
  have HA : ∀ z : Int32, (0 ≤ z.toInt ∧ z.toInt < 3) → pv P z = -1 → pv (P.set p2.toNatClampNeg (0 : Int32)) z = -1 := fun z rgz hz => (by rw [own_pvs hl_P rg_p2 rgz, if_neg (own_pne pv_p2 hz (by decide))]; exact hz)
  have HB : ∀ m : Int, m ≤ kv K p2 → m ≤ kv K p2 := fun m m0 => m0
  exact own_retV X2 hx hby Bd.notSynchronized Bd.returns d9_114 (by decide) (by decide) eH2 ⟨rfl, N2, K0, V_position_o0, V_heap_o0, HH, HA, HB⟩
theorem ef5n0 (m : MethodId) (x0 : Addr) (x1 : Int32) (x2 : UInt64) : entryFrame m #[(.ref x0), (.int x1), (.double x2)] 5 = mkF m 0 #[.val (.ref x0), .val (.int x1), .val (.double x2), .second, .unset] [] := by first | (simp [entryFrame, mkF, argsToLocals, Value.category]; done) | rfl
def Q5n0 (Z : State) (o0 : Addr) (p1 : Int32) (f2 : UInt64) (heap_o0 : Addr) (position_o0 : Addr) (key_o0 : Addr) (y0 : Int32) (y1 : Int32) (y2 : Int32) (P : List Int32) (K : List UInt64) (h0 : Heap) (n0 : Nat) (v : Option Value) (h : Heap) (L : List Loc) : Prop := v = none ∧ Fr n0 L ∧ Keep h0 h [o0, key_o0, heap_o0, position_o0] ∧ Exa Z h o0 "com/example/cross_town/crosstown/solve/NodeHeap" ∧ Fld Z h o0 "com/example/cross_town/crosstown/solve/NodeHeap" "heap" "[I" (.ref heap_o0) ∧ Fld Z h o0 "com/example/cross_town/crosstown/solve/NodeHeap" "position" "[I" (.ref position_o0) ∧ Fld Z h o0 "com/example/cross_town/crosstown/solve/NodeHeap" "key" "[D" (.ref key_o0) ∧ Fld Z h o0 "com/example/cross_town/crosstown/solve/NodeHeap" "size" "I" (.int (1 : Int32)) ∧ Ary tr Z h key_o0 .double ((K.set p1.toNatClampNeg f2).map Value.double) ∧ Ary tr Z h heap_o0 .int [(.int p1), (.int y1), (.int y2)] ∧ Ary tr Z h position_o0 .int ((P.set p1.toNatClampNeg (0 : Int32)).map Value.int) ∧ (Hp1 p1 (P.set p1.toNatClampNeg (0 : Int32)) (K.set p1.toNatClampNeg f2)) ∧ (NNk (K.set p1.toNatClampNeg f2)) ∧ (∀ z : Int32, (0 ≤ z.toInt ∧ z.toInt < 3) → ¬ p1.toInt = z.toInt → pv P z = -1 → pv (P.set p1.toNatClampNeg (0 : Int32)) z = -1)
set_option maxRecDepth 65536 in
set_option maxHeartbeats 40000000 in
theorem rm5n0 (l : Launch) (Z : State) (a0 : Array Value) (hw : ∀ d ∈ tables_1, d.before a0 Z = true) (ws : List Jvm.Cond) (o0 : Addr) (p1 : Int32) (f2 : UInt64) (heap_o0 : Addr) (position_o0 : Addr) (key_o0 : Addr) (y0 : Int32) (y1 : Int32) (y2 : Int32) (P : List Int32) (K : List UInt64) (h0 : Heap) (n0 : Nat) (Z0 : n0 ≤ h0.size) (E_o0 : Exa Z h0 o0 "com/example/cross_town/crosstown/solve/NodeHeap") (F_o0_heap : Fld Z h0 o0 "com/example/cross_town/crosstown/solve/NodeHeap" "heap" "[I" (.ref heap_o0)) (F_o0_position : Fld Z h0 o0 "com/example/cross_town/crosstown/solve/NodeHeap" "position" "[I" (.ref position_o0)) (F_o0_key : Fld Z h0 o0 "com/example/cross_town/crosstown/solve/NodeHeap" "key" "[D" (.ref key_o0)) (F_o0_size : Fld Z h0 o0 "com/example/cross_town/crosstown/solve/NodeHeap" "size" "I" (.int (0 : Int32))) (V_heap_o0 : Ary tr Z h0 heap_o0 .int [(.int y0), (.int y1), (.int y2)]) (V_position_o0 : Ary tr Z h0 position_o0 .int (P.map Value.int)) (hl_P : (P.length = 3)) (V_key_o0 : Ary tr Z h0 key_o0 .double (K.map Value.double)) (hl_K : (K.length = 3)) (nnk : (NNk K)) (nnf : (FP.Core.val64 f2 ≠ .nan)) (rg_p1 : (0 ≤ p1.toInt ∧ p1.toInt < 3)) (pv_p1 : (pv P p1 = -1)) (g_o0 : n0 ≤ o0) (ne_heap_o0_o0 : heap_o0 ≠ o0) (ne_position_o0_o0 : position_o0 ≠ o0) (ne_key_o0_o0 : key_o0 ≠ o0) (g_key_o0 : n0 ≤ key_o0) (ne_heap_o0_key_o0 : heap_o0 ≠ key_o0) (ne_position_o0_key_o0 : position_o0 ≠ key_o0) (g_heap_o0 : n0 ≤ heap_o0) (ne_position_o0_heap_o0 : position_o0 ≠ heap_o0) (g_position_o0 : n0 ≤ position_o0) :
    MetFree l (⟨"com/example/cross_town/crosstown/solve/NodeHeap", "insertOrLower", "(ID)V"⟩ : MethodName) (head1 (Jvm.Cond.code (⟨"com/example/cross_town/crosstown/solve/NodeHeap", "insertOrLower", "(ID)V"⟩ : MethodName) prog_33_method_3_code 5 none :: ws) ({ frames := 2, cells := 0, slots := 0, locals := 30 } : Room)) (fun a U => a = #[(.ref o0), (.int p1), (.double f2)] ∧ Z.Warmed39 U.vm ∧ U.heap = h0) (fun _ _ _ _ _ => True) (fun _ U o U' => ∃ v L, o = .returned v ∧ Q5n0 Z o0 p1 f2 heap_o0 position_o0 key_o0 y0 y1 y2 P K h0 n0 v U'.heap L ∧ FrameEnd U o U' L ({ frames := 2, cells := 0, slots := 0, locals := 30 } : Room).cells ({ frames := 2, cells := 0, slots := 0, locals := 30 } : Room).slots) := by
  refine MetFree.of_bodySF (plainFor_of_name pn_com_example_cross_town_crosstown_solve_NodeHeap) hisR ?_
  intro p e s m args below meth c s₁ Bd hml0 hP hK
  obtain ⟨rfl, hZ, hh⟩ := hP
  have hx := Bd.exec
  have hby := Bd.bytes
  have hml : c.maxLocals = 5 := hml0
  have hown : s.vm.findClass "com/example/cross_town/crosstown/solve/NodeHeap" = some m.cls := findClass_of_methodNamed Bd.named
  have hnm := (name_of_methodNamed Bd.named Bd.method).1
  have X0 : Stand p l e ({ frames := 2, cells := 0, slots := 0, locals := 30 } : Room) s m #[(.ref o0), (.int p1), (.double f2)] below meth c s₁ [] 0 0 := Stand.of_body Bd
  have eH0 : s₁.heap = h0 := by rw [← hh, Bd.state]; rfl
  have N0 := Fr.nil n0
  have K0 := Keep.refl h0 [o0, key_o0, heap_o0, position_o0]
  show Gt p.tables e below (fun o U' => ∃ v L, o = .returned v ∧ Q5n0 Z o0 p1 f2 heap_o0 position_o0 key_o0 y0 y1 y2 P K h0 n0 v U'.heap L ∧ FrameEnd s o U' L ({ frames := 2, cells := 0, slots := 0, locals := 30 } : Room).cells ({ frames := 2, cells := 0, slots := 0, locals := 30 } : Room).slots) _
  refine own_cast (ef5n0 m o0 p1 f2) ?_
  refine own_aloadN X0 hx hby rfl rfl d5_0 (pc' := 1) rfl ?_
  refine own_getF X0 hx hby hZ hown (host := "") (Or.inl (hw _ (List.mem_of_getElem? (i := 12) rfl))) Via.refl eH0 F_o0_position d5_1 (pc' := 4) rfl (fun T1 X1 eH1 => ?_)
  refine own_iloadN X1 hx hby rfl d5_4 (pc' := 5) rfl ?_
  refine own_iaload X1 hx hby hZ eH1 V_position_o0 (own_rg0 rg_p1) (v := (.int (P.getD p1.toNatClampNeg 0))) (own_lget (own_rgl rg_p1 hl_P)) d5_5 (pc' := 6) rfl ?_
  refine own_istore X1 hx hby (L' := #[.val (.ref o0), .val (.int p1), .val (.double f2), .second, .val (.int (P.getD p1.toNatClampNeg 0))]) rfl d5_6 (pc' := 8) rfl ?_
  refine own_iload X1 hx hby rfl d5_8 (pc' := 10) rfl ?_
  refine own_iconst X1 hx hby (v := (-1 : Int32)) (by decide) d5_10 (pc' := 11) rfl ?_
  have hk2 : (P.getD p1.toNatClampNeg 0) = (-1 : Int32) := own_pm pv_p1 (by decide)
  refine own_icF X1 hx hby d5_11 (own_ic_ne_p hk2) (pc' := 14) rfl ?_
  refine own_aloadN X1 hx hby rfl rfl d5_14 (pc' := 15) rfl ?_
  refine own_getF X1 hx hby hZ hown (host := "") (Or.inl (hw _ (List.mem_of_getElem? (i := 26) rfl))) Via.refl eH1 F_o0_size d5_15 (pc' := 18) rfl (fun T3 X3 eH3 => ?_)
  refine own_istore X3 hx hby (L' := #[.val (.ref o0), .val (.int p1), .val (.double f2), .second, .val (.int (0 : Int32))]) rfl d5_18 (pc' := 20) rfl ?_
  refine own_aloadN X3 hx hby rfl rfl d5_20 (pc' := 21) rfl ?_
  refine own_dup X3 hx hby rfl d5_21 (pc' := 22) rfl ?_
  refine own_getF X3 hx hby hZ hown (host := "") (Or.inl (hw _ (List.mem_of_getElem? (i := 26) rfl))) Via.refl eH3 F_o0_size d5_22 (pc' := 25) rfl (fun T4 X4 eH4 => ?_)
  refine own_iconst X4 hx hby (v := (1 : Int32)) (by decide) d5_25 (pc' := 26) rfl ?_
  refine own_iadd X4 hx hby (v := (1 : Int32)) (by decide) d5_26 (pc' := 27) rfl ?_
  refine own_putF X4 hx hby hZ hown (host := "") (Or.inl (hw _ (List.mem_of_getElem? (i := 26) rfl))) Via.refl eH4 F_o0_size E_o0 (Or.inl (hw _ (List.mem_of_getElem? (i := 27) rfl))) (hw _ (List.mem_of_getElem? (i := 1) rfl)) (ty := .int) (by decide) rfl rfl d5_27 (pc' := 30) rfl (fun T5 h5 X5 eH5 W5 => ?_)
  replace E_o0 := E_o0.wr W5
  replace F_o0_heap := F_o0_heap.other W5 (Or.inr (slot_ne (Or.inr (hw _ (List.mem_of_getElem? (i := 11) rfl))) (Or.inl (hw _ (List.mem_of_getElem? (i := 27) rfl))) (by decide) (t := (.array .int)) (t' := .int) (by decide) (by decide)))
  replace F_o0_position := F_o0_position.other W5 (Or.inr (slot_ne (Or.inr (hw _ (List.mem_of_getElem? (i := 13) rfl))) (Or.inl (hw _ (List.mem_of_getElem? (i := 27) rfl))) (by decide) (t := (.array .int)) (t' := .int) (by decide) (by decide)))
  replace F_o0_key := F_o0_key.other W5 (Or.inr (slot_ne (Or.inr (hw _ (List.mem_of_getElem? (i := 16) rfl))) (Or.inl (hw _ (List.mem_of_getElem? (i := 27) rfl))) (by decide) (t := (.array .double)) (t' := .int) (by decide) (by decide)))
  replace F_o0_size := F_o0_size.same W5
  replace V_heap_o0 := V_heap_o0.other W5 ne_heap_o0_o0
  replace V_position_o0 := V_position_o0.other W5 ne_position_o0_o0
  replace V_key_o0 := V_key_o0.other W5 ne_key_o0_o0
  have N5 := Fr.snoc X5 N0 g_o0
  replace K0 := K0.wr W5 (Or.inl (by simp))
  replace Z0 := Nat.le_trans Z0 (Nat.le_of_eq W5.size.symm)
  refine own_aloadN X5 hx hby rfl rfl d5_30 (pc' := 31) rfl ?_
  refine own_getF X5 hx hby hZ hown (host := "") (Or.inl (hw _ (List.mem_of_getElem? (i := 15) rfl))) Via.refl eH5 F_o0_key d5_31 (pc' := 34) rfl (fun T6 X6 eH6 => ?_)
  refine own_iloadN X6 hx hby rfl d5_34 (pc' := 35) rfl ?_
  refine own_dloadN X6 hx hby rfl d5_35 (pc' := 36) rfl ?_
  refine own_dastore X6 hx hby hZ eH6 V_key_o0 (own_rg0 rg_p1) (n := p1.toNatClampNeg) rfl (by rw [List.length_map]; exact own_rgl rg_p1 hl_K) d5_36 (pc' := 37) rfl (fun T7 h7 X7 eH7 W7 => ?_)
  replace E_o0 := E_o0.wr W7
  replace F_o0_heap := F_o0_heap.other W7 (Or.inl (Ne.symm ne_key_o0_o0))
  replace F_o0_position := F_o0_position.other W7 (Or.inl (Ne.symm ne_key_o0_o0))
  replace F_o0_key := F_o0_key.other W7 (Or.inl (Ne.symm ne_key_o0_o0))
  replace F_o0_size := F_o0_size.other W7 (Or.inl (Ne.symm ne_key_o0_o0))
  replace V_heap_o0 := V_heap_o0.other W7 ne_heap_o0_key_o0
  replace V_position_o0 := V_position_o0.other W7 ne_position_o0_key_o0
  have N7 := Fr.snoc X7 N5 g_key_o0
  replace K0 := K0.wr W7 (Or.inl (by simp))
  replace Z0 := Nat.le_trans Z0 (Nat.le_of_eq W7.size.symm)
  have hl8 : (K.set p1.toNatClampNeg f2).length = 3 := by rw [List.length_set]; exact hl_K
  replace V_key_o0 : Ary tr Z h7 key_o0 .double ((K.set p1.toNatClampNeg f2).map Value.double) := by rw [List.map_set]; exact V_key_o0.set W7
  refine own_aloadN X7 hx hby rfl rfl d5_37 (pc' := 38) rfl ?_
  refine own_iload X7 hx hby rfl d5_38 (pc' := 40) rfl ?_
  refine own_iloadN X7 hx hby rfl d5_40 (pc' := 41) rfl ?_
  refine own_private X7 hx hby hZ (y := (⟨"com/example/cross_town/crosstown/solve/NodeHeap", "siftUp", "(II)V"⟩ : MethodName)) (rest := []) hown (hw _ (List.mem_of_getElem? (i := 34) rfl)) (hw _ (List.mem_of_getElem? (i := 35) rfl)) (hw _ (List.mem_of_getElem? (i := 1) rfl)) (hw _ (List.mem_of_getElem? (i := 36) rfl)) (hw _ (List.mem_of_getElem? (i := 37) rfl)) (hw _ (List.mem_of_getElem? (i := 2) rfl)) (by decide) (rm6n0 l Z a0 hw [] o0 p1 heap_o0 position_o0 key_o0 y0 y1 y2 P (K.set p1.toNatClampNeg f2) h7 n0 Z0 E_o0 F_o0_heap F_o0_position F_o0_key V_heap_o0 V_position_o0 (by first | assumption | rfl | (simp only [List.length_set]; first | assumption | rfl)) V_key_o0 (by first | assumption | rfl | (simp only [List.length_set]; first | assumption | rfl)) rg_p1 (own_nnk nnk nnf (own_rgl rg_p1 hl_K)) pv_p1 g_heap_o0 (Ne.symm ne_heap_o0_o0) ne_position_o0_heap_o0 g_position_o0 (Ne.symm ne_position_o0_o0) (Ne.symm ne_position_o0_key_o0) (Ne.symm ne_heap_o0_key_o0)) eH7 (by rw [hml]; rfl) (a := o0) E_o0 (argsL := [(.int (0 : Int32)), (.int p1)]) rfl (lenOf pd_1 rfl) rfl d5_41 (pc' := 44) rfl (by decide) (W := 0) (Nat.le_of_eq rfl) (by decide) (by decide) (by decide) (fun T9 h9 Lc9 v9r X9 eH9 hQ9 => ?_)
  obtain ⟨rfl, Nq9, Kq9, gq9_0, gq9_1, gq9_2, gq9_3⟩ := hQ9
  have N9 := Fr.app N7 Nq9
  replace E_o0 := E_o0.keep Kq9
  replace F_o0_heap := F_o0_heap.keep Kq9 (ninS (Ne.symm ne_position_o0_o0) (ninS (Ne.symm ne_heap_o0_o0) nin0))
  replace F_o0_position := F_o0_position.keep Kq9 (ninS (Ne.symm ne_position_o0_o0) (ninS (Ne.symm ne_heap_o0_o0) nin0))
  replace F_o0_key := F_o0_key.keep Kq9 (ninS (Ne.symm ne_position_o0_o0) (ninS (Ne.symm ne_heap_o0_o0) nin0))
  replace F_o0_size := F_o0_size.keep Kq9 (ninS (Ne.symm ne_position_o0_o0) (ninS (Ne.symm ne_heap_o0_o0) nin0))
  replace V_key_o0 := V_key_o0.keep Kq9 (ninS (Ne.symm ne_position_o0_key_o0) (ninS (Ne.symm ne_heap_o0_key_o0) nin0))
  replace K0 := K0.trans Kq9 (allS (Or.inl (by simp)) (allS (Or.inl (by simp)) all0))
  have hl10 : (P.set p1.toNatClampNeg (0 : Int32)).length = 3 := by (repeat' split) <;> (simp only [List.length_set]; first | assumption | rfl)
  have V_position_o0 := gq9_0
  have V_heap_o0 := gq9_1
  have hp_9 : Hp1 p1 (P.set p1.toNatClampNeg (0 : Int32)) (K.set p1.toNatClampNeg f2) := gq9_2
  have ab_9 : ∀ z : Int32, (0 ≤ z.toInt ∧ z.toInt < 3) → ¬ p1.toInt = z.toInt → pv P z = -1 → pv (P.set p1.toNatClampNeg (0 : Int32)) z = -1 := gq9_3
  replace Z0 := Nat.le_trans Z0 Kq9.1
  exact own_retV X9 hx hby Bd.notSynchronized Bd.returns d5_44 (by decide) (by decide) eH9 ⟨rfl, N9, K0, E_o0, F_o0_heap, F_o0_position, F_o0_key, F_o0_size, V_key_o0, V_heap_o0, V_position_o0, hp_9, (own_nnk nnk nnf (own_rgl rg_p1 hl_K)), ab_9⟩
theorem ef5n1 (m : MethodId) (x0 : Addr) (x1 : Int32) (x2 : UInt64) : entryFrame m #[(.ref x0), (.int x1), (.double x2)] 5 = mkF m 0 #[.val (.ref x0), .val (.int x1), .val (.double x2), .second, .unset] [] := by first | (simp [entryFrame, mkF, argsToLocals, Value.category]; done) | rfl
def Q5n1 (Z : State) (o0 : Addr) (p1 : Int32) (f2 : UInt64) (heap_o0 : Addr) (position_o0 : Addr) (key_o0 : Addr) (y0 : Int32) (y1 : Int32) (y2 : Int32) (P : List Int32) (K : List UInt64) (h0 : Heap) (n0 : Nat) (v : Option Value) (h : Heap) (L : List Loc) : Prop := v = none ∧ Fr n0 L ∧ Keep h0 h [o0, key_o0, heap_o0, position_o0] ∧ Exa Z h o0 "com/example/cross_town/crosstown/solve/NodeHeap" ∧ Fld Z h o0 "com/example/cross_town/crosstown/solve/NodeHeap" "heap" "[I" (.ref heap_o0) ∧ Fld Z h o0 "com/example/cross_town/crosstown/solve/NodeHeap" "position" "[I" (.ref position_o0) ∧ Fld Z h o0 "com/example/cross_town/crosstown/solve/NodeHeap" "key" "[D" (.ref key_o0) ∧ Fld Z h o0 "com/example/cross_town/crosstown/solve/NodeHeap" "size" "I" (.int (2 : Int32)) ∧ Ary tr Z h key_o0 .double ((K.set p1.toNatClampNeg f2).map Value.double) ∧ Ary tr Z h heap_o0 .int [(.int (if dle ((K.set p1.toNatClampNeg f2).getD y0.toNatClampNeg 0) ((K.set p1.toNatClampNeg f2).getD p1.toNatClampNeg 0) then y0 else p1)), (.int (if dle ((K.set p1.toNatClampNeg f2).getD y0.toNatClampNeg 0) ((K.set p1.toNatClampNeg f2).getD p1.toNatClampNeg 0) then p1 else y0)), (.int y2)] ∧ Ary tr Z h position_o0 .int ((if dle ((K.set p1.toNatClampNeg f2).getD y0.toNatClampNeg 0) ((K.set p1.toNatClampNeg f2).getD p1.toNatClampNeg 0) then (P.set p1.toNatClampNeg (1 : Int32)) else ((P.set y0.toNatClampNeg (1 : Int32)).set p1.toNatClampNeg (0 : Int32))).map Value.int) ∧ (Hp2 (if dle ((K.set p1.toNatClampNeg f2).getD y0.toNatClampNeg 0) ((K.set p1.toNatClampNeg f2).getD p1.toNatClampNeg 0) then y0 else p1) (if dle ((K.set p1.toNatClampNeg f2).getD y0.toNatClampNeg 0) ((K.set p1.toNatClampNeg f2).getD p1.toNatClampNeg 0) then p1 else y0) (if dle ((K.set p1.toNatClampNeg f2).getD y0.toNatClampNeg 0) ((K.set p1.toNatClampNeg f2).getD p1.toNatClampNeg 0) then (P.set p1.toNatClampNeg (1 : Int32)) else ((P.set y0.toNatClampNeg (1 : Int32)).set p1.toNatClampNeg (0 : Int32))) (K.set p1.toNatClampNeg f2)) ∧ (NNk (K.set p1.toNatClampNeg f2)) ∧ (∀ z : Int32, (0 ≤ z.toInt ∧ z.toInt < 3) → ¬ p1.toInt = z.toInt → pv P z = -1 → pv (if dle ((K.set p1.toNatClampNeg f2).getD y0.toNatClampNeg 0) ((K.set p1.toNatClampNeg f2).getD p1.toNatClampNeg 0) then (P.set p1.toNatClampNeg (1 : Int32)) else ((P.set y0.toNatClampNeg (1 : Int32)).set p1.toNatClampNeg (0 : Int32))) z = -1)
set_option maxRecDepth 65536 in
set_option maxHeartbeats 40000000 in
theorem rm5n1 (l : Launch) (Z : State) (a0 : Array Value) (hw : ∀ d ∈ tables_1, d.before a0 Z = true) (ws : List Jvm.Cond) (o0 : Addr) (p1 : Int32) (f2 : UInt64) (heap_o0 : Addr) (position_o0 : Addr) (key_o0 : Addr) (y0 : Int32) (y1 : Int32) (y2 : Int32) (P : List Int32) (K : List UInt64) (h0 : Heap) (n0 : Nat) (Z0 : n0 ≤ h0.size) (E_o0 : Exa Z h0 o0 "com/example/cross_town/crosstown/solve/NodeHeap") (F_o0_heap : Fld Z h0 o0 "com/example/cross_town/crosstown/solve/NodeHeap" "heap" "[I" (.ref heap_o0)) (F_o0_position : Fld Z h0 o0 "com/example/cross_town/crosstown/solve/NodeHeap" "position" "[I" (.ref position_o0)) (F_o0_key : Fld Z h0 o0 "com/example/cross_town/crosstown/solve/NodeHeap" "key" "[D" (.ref key_o0)) (F_o0_size : Fld Z h0 o0 "com/example/cross_town/crosstown/solve/NodeHeap" "size" "I" (.int (1 : Int32))) (V_heap_o0 : Ary tr Z h0 heap_o0 .int [(.int y0), (.int y1), (.int y2)]) (V_position_o0 : Ary tr Z h0 position_o0 .int (P.map Value.int)) (hl_P : (P.length = 3)) (V_key_o0 : Ary tr Z h0 key_o0 .double (K.map Value.double)) (hl_K : (K.length = 3)) (nnk : (NNk K)) (nnf : (FP.Core.val64 f2 ≠ .nan)) (rg_p1 : (0 ≤ p1.toInt ∧ p1.toInt < 3)) (pv_p1 : (pv P p1 = -1)) (hp : (Hp1 y0 P K)) (g_o0 : n0 ≤ o0) (ne_heap_o0_o0 : heap_o0 ≠ o0) (ne_position_o0_o0 : position_o0 ≠ o0) (ne_key_o0_o0 : key_o0 ≠ o0) (g_key_o0 : n0 ≤ key_o0) (ne_heap_o0_key_o0 : heap_o0 ≠ key_o0) (ne_position_o0_key_o0 : position_o0 ≠ key_o0) (g_heap_o0 : n0 ≤ heap_o0) (ne_position_o0_heap_o0 : position_o0 ≠ heap_o0) (g_position_o0 : n0 ≤ position_o0) :
    MetFree l (⟨"com/example/cross_town/crosstown/solve/NodeHeap", "insertOrLower", "(ID)V"⟩ : MethodName) (head1 (Jvm.Cond.code (⟨"com/example/cross_town/crosstown/solve/NodeHeap", "insertOrLower", "(ID)V"⟩ : MethodName) prog_33_method_3_code 5 none :: ws) ({ frames := 2, cells := 0, slots := 0, locals := 30 } : Room)) (fun a U => a = #[(.ref o0), (.int p1), (.double f2)] ∧ Z.Warmed39 U.vm ∧ U.heap = h0) (fun _ _ _ _ _ => True) (fun _ U o U' => ∃ v L, o = .returned v ∧ Q5n1 Z o0 p1 f2 heap_o0 position_o0 key_o0 y0 y1 y2 P K h0 n0 v U'.heap L ∧ FrameEnd U o U' L ({ frames := 2, cells := 0, slots := 0, locals := 30 } : Room).cells ({ frames := 2, cells := 0, slots := 0, locals := 30 } : Room).slots) := by
  refine MetFree.of_bodySF (plainFor_of_name pn_com_example_cross_town_crosstown_solve_NodeHeap) hisR ?_
  intro p e s m args below meth c s₁ Bd hml0 hP hK
  obtain ⟨rfl, hZ, hh⟩ := hP
  have hx := Bd.exec
  have hby := Bd.bytes
  have hml : c.maxLocals = 5 := hml0
  have hown : s.vm.findClass "com/example/cross_town/crosstown/solve/NodeHeap" = some m.cls := findClass_of_methodNamed Bd.named
  have hnm := (name_of_methodNamed Bd.named Bd.method).1
  have X0 : Stand p l e ({ frames := 2, cells := 0, slots := 0, locals := 30 } : Room) s m #[(.ref o0), (.int p1), (.double f2)] below meth c s₁ [] 0 0 := Stand.of_body Bd
  have eH0 : s₁.heap = h0 := by rw [← hh, Bd.state]; rfl
  have N0 := Fr.nil n0
  have K0 := Keep.refl h0 [o0, key_o0, heap_o0, position_o0]
  show Gt p.tables e below (fun o U' => ∃ v L, o = .returned v ∧ Q5n1 Z o0 p1 f2 heap_o0 position_o0 key_o0 y0 y1 y2 P K h0 n0 v U'.heap L ∧ FrameEnd s o U' L ({ frames := 2, cells := 0, slots := 0, locals := 30 } : Room).cells ({ frames := 2, cells := 0, slots := 0, locals := 30 } : Room).slots) _
  refine own_cast (ef5n1 m o0 p1 f2) ?_
  obtain ⟨rg_y0, pv_y0⟩ := hp
  have d_y0_p1 : ¬ y0.toInt = p1.toInt := own_pne pv_y0 pv_p1 (by decide)
  have d_p1_y0 : ¬ p1.toInt = y0.toInt := own_pne pv_p1 pv_y0 (by decide)
  refine own_aloadN X0 hx hby rfl rfl d5_0 (pc' := 1) rfl ?_
  refine own_getF X0 hx hby hZ hown (host := "") (Or.inl (hw _ (List.mem_of_getElem? (i := 12) rfl))) Via.refl eH0 F_o0_position d5_1 (pc' := 4) rfl (fun T1 X1 eH1 => ?_)
  refine own_iloadN X1 hx hby rfl d5_4 (pc' := 5) rfl ?_
  refine own_iaload X1 hx hby hZ eH1 V_position_o0 (own_rg0 rg_p1) (v := (.int (P.getD p1.toNatClampNeg 0))) (own_lget (own_rgl rg_p1 hl_P)) d5_5 (pc' := 6) rfl ?_
  refine own_istore X1 hx hby (L' := #[.val (.ref o0), .val (.int p1), .val (.double f2), .second, .val (.int (P.getD p1.toNatClampNeg 0))]) rfl d5_6 (pc' := 8) rfl ?_
  refine own_iload X1 hx hby rfl d5_8 (pc' := 10) rfl ?_
  refine own_iconst X1 hx hby (v := (-1 : Int32)) (by decide) d5_10 (pc' := 11) rfl ?_
  have hk2 : (P.getD p1.toNatClampNeg 0) = (-1 : Int32) := own_pm pv_p1 (by decide)
  refine own_icF X1 hx hby d5_11 (own_ic_ne_p hk2) (pc' := 14) rfl ?_
  refine own_aloadN X1 hx hby rfl rfl d5_14 (pc' := 15) rfl ?_
  refine own_getF X1 hx hby hZ hown (host := "") (Or.inl (hw _ (List.mem_of_getElem? (i := 26) rfl))) Via.refl eH1 F_o0_size d5_15 (pc' := 18) rfl (fun T3 X3 eH3 => ?_)
  refine own_istore X3 hx hby (L' := #[.val (.ref o0), .val (.int p1), .val (.double f2), .second, .val (.int (1 : Int32))]) rfl d5_18 (pc' := 20) rfl ?_
  refine own_aloadN X3 hx hby rfl rfl d5_20 (pc' := 21) rfl ?_
  refine own_dup X3 hx hby rfl d5_21 (pc' := 22) rfl ?_
  refine own_getF X3 hx hby hZ hown (host := "") (Or.inl (hw _ (List.mem_of_getElem? (i := 26) rfl))) Via.refl eH3 F_o0_size d5_22 (pc' := 25) rfl (fun T4 X4 eH4 => ?_)
  refine own_iconst X4 hx hby (v := (1 : Int32)) (by decide) d5_25 (pc' := 26) rfl ?_
  refine own_iadd X4 hx hby (v := (2 : Int32)) (by decide) d5_26 (pc' := 27) rfl ?_
  refine own_putF X4 hx hby hZ hown (host := "") (Or.inl (hw _ (List.mem_of_getElem? (i := 26) rfl))) Via.refl eH4 F_o0_size E_o0 (Or.inl (hw _ (List.mem_of_getElem? (i := 27) rfl))) (hw _ (List.mem_of_getElem? (i := 1) rfl)) (ty := .int) (by decide) rfl rfl d5_27 (pc' := 30) rfl (fun T5 h5 X5 eH5 W5 => ?_)
  replace E_o0 := E_o0.wr W5
  replace F_o0_heap := F_o0_heap.other W5 (Or.inr (slot_ne (Or.inr (hw _ (List.mem_of_getElem? (i := 11) rfl))) (Or.inl (hw _ (List.mem_of_getElem? (i := 27) rfl))) (by decide) (t := (.array .int)) (t' := .int) (by decide) (by decide)))
  replace F_o0_position := F_o0_position.other W5 (Or.inr (slot_ne (Or.inr (hw _ (List.mem_of_getElem? (i := 13) rfl))) (Or.inl (hw _ (List.mem_of_getElem? (i := 27) rfl))) (by decide) (t := (.array .int)) (t' := .int) (by decide) (by decide)))
  replace F_o0_key := F_o0_key.other W5 (Or.inr (slot_ne (Or.inr (hw _ (List.mem_of_getElem? (i := 16) rfl))) (Or.inl (hw _ (List.mem_of_getElem? (i := 27) rfl))) (by decide) (t := (.array .double)) (t' := .int) (by decide) (by decide)))
  replace F_o0_size := F_o0_size.same W5
  replace V_heap_o0 := V_heap_o0.other W5 ne_heap_o0_o0
  replace V_position_o0 := V_position_o0.other W5 ne_position_o0_o0
  replace V_key_o0 := V_key_o0.other W5 ne_key_o0_o0
  have N5 := Fr.snoc X5 N0 g_o0
  replace K0 := K0.wr W5 (Or.inl (by simp))
  replace Z0 := Nat.le_trans Z0 (Nat.le_of_eq W5.size.symm)
  refine own_aloadN X5 hx hby rfl rfl d5_30 (pc' := 31) rfl ?_
  refine own_getF X5 hx hby hZ hown (host := "") (Or.inl (hw _ (List.mem_of_getElem? (i := 15) rfl))) Via.refl eH5 F_o0_key d5_31 (pc' := 34) rfl (fun T6 X6 eH6 => ?_)
  refine own_iloadN X6 hx hby rfl d5_34 (pc' := 35) rfl ?_
  refine own_dloadN X6 hx hby rfl d5_35 (pc' := 36) rfl ?_
  refine own_dastore X6 hx hby hZ eH6 V_key_o0 (own_rg0 rg_p1) (n := p1.toNatClampNeg) rfl (by rw [List.length_map]; exact own_rgl rg_p1 hl_K) d5_36 (pc' := 37) rfl (fun T7 h7 X7 eH7 W7 => ?_)
  replace E_o0 := E_o0.wr W7
  replace F_o0_heap := F_o0_heap.other W7 (Or.inl (Ne.symm ne_key_o0_o0))
  replace F_o0_position := F_o0_position.other W7 (Or.inl (Ne.symm ne_key_o0_o0))
  replace F_o0_key := F_o0_key.other W7 (Or.inl (Ne.symm ne_key_o0_o0))
  replace F_o0_size := F_o0_size.other W7 (Or.inl (Ne.symm ne_key_o0_o0))
  replace V_heap_o0 := V_heap_o0.other W7 ne_heap_o0_key_o0
  replace V_position_o0 := V_position_o0.other W7 ne_position_o0_key_o0
  have N7 := Fr.snoc X7 N5 g_key_o0
  replace K0 := K0.wr W7 (Or.inl (by simp))
  replace Z0 := Nat.le_trans Z0 (Nat.le_of_eq W7.size.symm)
  have hl8 : (K.set p1.toNatClampNeg f2).length = 3 := by rw [List.length_set]; exact hl_K
  replace V_key_o0 : Ary tr Z h7 key_o0 .double ((K.set p1.toNatClampNeg f2).map Value.double) := by rw [List.map_set]; exact V_key_o0.set W7
  refine own_aloadN X7 hx hby rfl rfl d5_37 (pc' := 38) rfl ?_
  refine own_iload X7 hx hby rfl d5_38 (pc' := 40) rfl ?_
  refine own_iloadN X7 hx hby rfl d5_40 (pc' := 41) rfl ?_
  refine own_private X7 hx hby hZ (y := (⟨"com/example/cross_town/crosstown/solve/NodeHeap", "siftUp", "(II)V"⟩ : MethodName)) (rest := []) hown (hw _ (List.mem_of_getElem? (i := 34) rfl)) (hw _ (List.mem_of_getElem? (i := 35) rfl)) (hw _ (List.mem_of_getElem? (i := 1) rfl)) (hw _ (List.mem_of_getElem? (i := 36) rfl)) (hw _ (List.mem_of_getElem? (i := 37) rfl)) (hw _ (List.mem_of_getElem? (i := 2) rfl)) (by decide) (rm6n1 l Z a0 hw [] o0 p1 heap_o0 position_o0 key_o0 y0 y1 y2 P (K.set p1.toNatClampNeg f2) h7 n0 Z0 E_o0 F_o0_heap F_o0_position F_o0_key V_heap_o0 V_position_o0 (by first | assumption | rfl | (simp only [List.length_set]; first | assumption | rfl)) V_key_o0 (by first | assumption | rfl | (simp only [List.length_set]; first | assumption | rfl)) rg_p1 (own_nnk nnk nnf (own_rgl rg_p1 hl_K)) pv_p1 rg_y0 pv_y0 g_heap_o0 (Ne.symm ne_heap_o0_o0) ne_position_o0_heap_o0 g_position_o0 (Ne.symm ne_position_o0_o0) (Ne.symm ne_position_o0_key_o0) (Ne.symm ne_heap_o0_key_o0)) eH7 (by rw [hml]; rfl) (a := o0) E_o0 (argsL := [(.int (1 : Int32)), (.int p1)]) rfl (lenOf pd_1 rfl) rfl d5_41 (pc' := 44) rfl (by decide) (W := 0) (Nat.le_of_eq rfl) (by decide) (by decide) (by decide) (fun T9 h9 Lc9 v9r X9 eH9 hQ9 => ?_)
  obtain ⟨rfl, Nq9, Kq9, gq9_0, gq9_1, gq9_2, gq9_3⟩ := hQ9
  have N9 := Fr.app N7 Nq9
  replace E_o0 := E_o0.keep Kq9
  replace F_o0_heap := F_o0_heap.keep Kq9 (ninS (Ne.symm ne_position_o0_o0) (ninS (Ne.symm ne_heap_o0_o0) nin0))
  replace F_o0_position := F_o0_position.keep Kq9 (ninS (Ne.symm ne_position_o0_o0) (ninS (Ne.symm ne_heap_o0_o0) nin0))
  replace F_o0_key := F_o0_key.keep Kq9 (ninS (Ne.symm ne_position_o0_o0) (ninS (Ne.symm ne_heap_o0_o0) nin0))
  replace F_o0_size := F_o0_size.keep Kq9 (ninS (Ne.symm ne_position_o0_o0) (ninS (Ne.symm ne_heap_o0_o0) nin0))
  replace V_key_o0 := V_key_o0.keep Kq9 (ninS (Ne.symm ne_position_o0_key_o0) (ninS (Ne.symm ne_heap_o0_key_o0) nin0))
  replace K0 := K0.trans Kq9 (allS (Or.inl (by simp)) (allS (Or.inl (by simp)) all0))
  have hl10 : (if dle ((K.set p1.toNatClampNeg f2).getD y0.toNatClampNeg 0) ((K.set p1.toNatClampNeg f2).getD p1.toNatClampNeg 0) then (P.set p1.toNatClampNeg (1 : Int32)) else ((P.set y0.toNatClampNeg (1 : Int32)).set p1.toNatClampNeg (0 : Int32))).length = 3 := by (repeat' split) <;> (simp only [List.length_set]; first | assumption | rfl)
  have V_position_o0 := gq9_0
  have V_heap_o0 := gq9_1
  have hp_9 : Hp2 (if dle ((K.set p1.toNatClampNeg f2).getD y0.toNatClampNeg 0) ((K.set p1.toNatClampNeg f2).getD p1.toNatClampNeg 0) then y0 else p1) (if dle ((K.set p1.toNatClampNeg f2).getD y0.toNatClampNeg 0) ((K.set p1.toNatClampNeg f2).getD p1.toNatClampNeg 0) then p1 else y0) (if dle ((K.set p1.toNatClampNeg f2).getD y0.toNatClampNeg 0) ((K.set p1.toNatClampNeg f2).getD p1.toNatClampNeg 0) then (P.set p1.toNatClampNeg (1 : Int32)) else ((P.set y0.toNatClampNeg (1 : Int32)).set p1.toNatClampNeg (0 : Int32))) (K.set p1.toNatClampNeg f2) := gq9_2
  have ab_9 : ∀ z : Int32, (0 ≤ z.toInt ∧ z.toInt < 3) → ¬ p1.toInt = z.toInt → pv P z = -1 → pv (if dle ((K.set p1.toNatClampNeg f2).getD y0.toNatClampNeg 0) ((K.set p1.toNatClampNeg f2).getD p1.toNatClampNeg 0) then (P.set p1.toNatClampNeg (1 : Int32)) else ((P.set y0.toNatClampNeg (1 : Int32)).set p1.toNatClampNeg (0 : Int32))) z = -1 := gq9_3
  replace Z0 := Nat.le_trans Z0 Kq9.1
  exact own_retV X9 hx hby Bd.notSynchronized Bd.returns d5_44 (by decide) (by decide) eH9 ⟨rfl, N9, K0, E_o0, F_o0_heap, F_o0_position, F_o0_key, F_o0_size, V_key_o0, V_heap_o0, V_position_o0, hp_9, (own_nnk nnk nnf (own_rgl rg_p1 hl_K)), ab_9⟩
theorem ef5l10 (m : MethodId) (x0 : Addr) (x1 : Int32) (x2 : UInt64) : entryFrame m #[(.ref x0), (.int x1), (.double x2)] 5 = mkF m 0 #[.val (.ref x0), .val (.int x1), .val (.double x2), .second, .unset] [] := by first | (simp [entryFrame, mkF, argsToLocals, Value.category]; done) | rfl
def Q5l10 (Z : State) (o0 : Addr) (p1 : Int32) (f2 : UInt64) (heap_o0 : Addr) (position_o0 : Addr) (key_o0 : Addr) (y1 : Int32) (y2 : Int32) (P : List Int32) (K : List UInt64) (h0 : Heap) (n0 : Nat) (v : Option Value) (h : Heap) (L : List Loc) : Prop := v = none ∧ Fr n0 L ∧ Keep h0 h [key_o0, heap_o0, position_o0] ∧ Ary tr Z h key_o0 .double ((K.set p1.toNatClampNeg f2).map Value.double) ∧ Ary tr Z h heap_o0 .int [(.int p1), (.int y1), (.int y2)] ∧ Ary tr Z h position_o0 .int ((P.set p1.toNatClampNeg (0 : Int32)).map Value.int) ∧ (Hp1 p1 (P.set p1.toNatClampNeg (0 : Int32)) (K.set p1.toNatClampNeg f2)) ∧ (NNk (K.set p1.toNatClampNeg f2))
set_option maxRecDepth 65536 in
set_option maxHeartbeats 40000000 in
theorem rm5l10 (l : Launch) (Z : State) (a0 : Array Value) (hw : ∀ d ∈ tables_1, d.before a0 Z = true) (ws : List Jvm.Cond) (o0 : Addr) (p1 : Int32) (f2 : UInt64) (heap_o0 : Addr) (position_o0 : Addr) (key_o0 : Addr) (y1 : Int32) (y2 : Int32) (P : List Int32) (K : List UInt64) (h0 : Heap) (n0 : Nat) (Z0 : n0 ≤ h0.size) (E_o0 : Exa Z h0 o0 "com/example/cross_town/crosstown/solve/NodeHeap") (F_o0_heap : Fld Z h0 o0 "com/example/cross_town/crosstown/solve/NodeHeap" "heap" "[I" (.ref heap_o0)) (F_o0_position : Fld Z h0 o0 "com/example/cross_town/crosstown/solve/NodeHeap" "position" "[I" (.ref position_o0)) (F_o0_key : Fld Z h0 o0 "com/example/cross_town/crosstown/solve/NodeHeap" "key" "[D" (.ref key_o0)) (F_o0_size : Fld Z h0 o0 "com/example/cross_town/crosstown/solve/NodeHeap" "size" "I" (.int (1 : Int32))) (V_heap_o0 : Ary tr Z h0 heap_o0 .int [(.int p1), (.int y1), (.int y2)]) (V_position_o0 : Ary tr Z h0 position_o0 .int (P.map Value.int)) (hl_P : (P.length = 3)) (V_key_o0 : Ary tr Z h0 key_o0 .double (K.map Value.double)) (hl_K : (K.length = 3)) (nnk : (NNk K)) (nnf : (FP.Core.val64 f2 ≠ .nan)) (hp : (Hp1 p1 P K)) (hlow : (zv f2 ≤ kv K p1)) (g_key_o0 : n0 ≤ key_o0) (ne_o0_key_o0 : o0 ≠ key_o0) (ne_heap_o0_key_o0 : heap_o0 ≠ key_o0) (ne_position_o0_key_o0 : position_o0 ≠ key_o0) (g_heap_o0 : n0 ≤ heap_o0) (ne_o0_heap_o0 : o0 ≠ heap_o0) (ne_position_o0_heap_o0 : position_o0 ≠ heap_o0) (g_position_o0 : n0 ≤ position_o0) (ne_o0_position_o0 : o0 ≠ position_o0) :
    MetFree l (⟨"com/example/cross_town/crosstown/solve/NodeHeap", "insertOrLower", "(ID)V"⟩ : MethodName) (head1 (Jvm.Cond.code (⟨"com/example/cross_town/crosstown/solve/NodeHeap", "insertOrLower", "(ID)V"⟩ : MethodName) prog_33_method_3_code 5 none :: ws) ({ frames := 2, cells := 0, slots := 0, locals := 30 } : Room)) (fun a U => a = #[(.ref o0), (.int p1), (.double f2)] ∧ Z.Warmed39 U.vm ∧ U.heap = h0) (fun _ _ _ _ _ => True) (fun _ U o U' => ∃ v L, o = .returned v ∧ Q5l10 Z o0 p1 f2 heap_o0 position_o0 key_o0 y1 y2 P K h0 n0 v U'.heap L ∧ FrameEnd U o U' L ({ frames := 2, cells := 0, slots := 0, locals := 30 } : Room).cells ({ frames := 2, cells := 0, slots := 0, locals := 30 } : Room).slots) := by
  refine MetFree.of_bodySF (plainFor_of_name pn_com_example_cross_town_crosstown_solve_NodeHeap) hisR ?_
  intro p e s m args below meth c s₁ Bd hml0 hP hK
  obtain ⟨rfl, hZ, hh⟩ := hP
  have hx := Bd.exec
  have hby := Bd.bytes
  have hml : c.maxLocals = 5 := hml0
  have hown : s.vm.findClass "com/example/cross_town/crosstown/solve/NodeHeap" = some m.cls := findClass_of_methodNamed Bd.named
  have hnm := (name_of_methodNamed Bd.named Bd.method).1
  have X0 : Stand p l e ({ frames := 2, cells := 0, slots := 0, locals := 30 } : Room) s m #[(.ref o0), (.int p1), (.double f2)] below meth c s₁ [] 0 0 := Stand.of_body Bd
  have eH0 : s₁.heap = h0 := by rw [← hh, Bd.state]; rfl
  have N0 := Fr.nil n0
  have K0 := Keep.refl h0 [key_o0, heap_o0, position_o0]
  show Gt p.tables e below (fun o U' => ∃ v L, o = .returned v ∧ Q5l10 Z o0 p1 f2 heap_o0 position_o0 key_o0 y1 y2 P K h0 n0 v U'.heap L ∧ FrameEnd s o U' L ({ frames := 2, cells := 0, slots := 0, locals := 30 } : Room).cells ({ frames := 2, cells := 0, slots := 0, locals := 30 } : Room).slots) _
  refine own_cast (ef5l10 m o0 p1 f2) ?_
  obtain ⟨rg_p1, pv_p1⟩ := hp
  refine own_aloadN X0 hx hby rfl rfl d5_0 (pc' := 1) rfl ?_
  refine own_getF X0 hx hby hZ hown (host := "") (Or.inl (hw _ (List.mem_of_getElem? (i := 12) rfl))) Via.refl eH0 F_o0_position d5_1 (pc' := 4) rfl (fun T1 X1 eH1 => ?_)
  refine own_iloadN X1 hx hby rfl d5_4 (pc' := 5) rfl ?_
  refine own_iaload X1 hx hby hZ eH1 V_position_o0 (own_rg0 rg_p1) (v := (.int (P.getD p1.toNatClampNeg 0))) (own_lget (own_rgl rg_p1 hl_P)) d5_5 (pc' := 6) rfl ?_
  refine own_istore X1 hx hby (L' := #[.val (.ref o0), .val (.int p1), .val (.double f2), .second, .val (.int (P.getD p1.toNatClampNeg 0))]) rfl d5_6 (pc' := 8) rfl ?_
  rw [own_pm (i := (0 : Int32)) pv_p1 (by decide)]
  refine own_iload X1 hx hby rfl d5_8 (pc' := 10) rfl ?_
  refine own_iconst X1 hx hby (v := (-1 : Int32)) (by decide) d5_10 (pc' := 11) rfl ?_
  refine own_icT X1 hx hby d5_11 (by decide) (by decide) (pc' := 30) (by decide) ?_
  refine own_aloadN X1 hx hby rfl rfl d5_30 (pc' := 31) rfl ?_
  refine own_getF X1 hx hby hZ hown (host := "") (Or.inl (hw _ (List.mem_of_getElem? (i := 15) rfl))) Via.refl eH1 F_o0_key d5_31 (pc' := 34) rfl (fun T2 X2 eH2 => ?_)
  refine own_iloadN X2 hx hby rfl d5_34 (pc' := 35) rfl ?_
  refine own_dloadN X2 hx hby rfl d5_35 (pc' := 36) rfl ?_
  refine own_dastore X2 hx hby hZ eH2 V_key_o0 (own_rg0 rg_p1) (n := p1.toNatClampNeg) rfl (by rw [List.length_map]; exact own_rgl rg_p1 hl_K) d5_36 (pc' := 37) rfl (fun T3 h3 X3 eH3 W3 => ?_)
  replace E_o0 := E_o0.wr W3
  replace F_o0_heap := F_o0_heap.other W3 (Or.inl ne_o0_key_o0)
  replace F_o0_position := F_o0_position.other W3 (Or.inl ne_o0_key_o0)
  replace F_o0_key := F_o0_key.other W3 (Or.inl ne_o0_key_o0)
  replace F_o0_size := F_o0_size.other W3 (Or.inl ne_o0_key_o0)
  replace V_heap_o0 := V_heap_o0.other W3 ne_heap_o0_key_o0
  replace V_position_o0 := V_position_o0.other W3 ne_position_o0_key_o0
  have N3 := Fr.snoc X3 N0 g_key_o0
  replace K0 := K0.wr W3 (Or.inl (by simp))
  replace Z0 := Nat.le_trans Z0 (Nat.le_of_eq W3.size.symm)
  have hl4 : (K.set p1.toNatClampNeg f2).length = 3 := by rw [List.length_set]; exact hl_K
  replace V_key_o0 : Ary tr Z h3 key_o0 .double ((K.set p1.toNatClampNeg f2).map Value.double) := by rw [List.map_set]; exact V_key_o0.set W3
  refine own_aloadN X3 hx hby rfl rfl d5_37 (pc' := 38) rfl ?_
  refine own_iload X3 hx hby rfl d5_38 (pc' := 40) rfl ?_
  refine own_iloadN X3 hx hby rfl d5_40 (pc' := 41) rfl ?_
  refine own_private X3 hx hby hZ (y := (⟨"com/example/cross_town/crosstown/solve/NodeHeap", "siftUp", "(II)V"⟩ : MethodName)) (rest := []) hown (hw _ (List.mem_of_getElem? (i := 34) rfl)) (hw _ (List.mem_of_getElem? (i := 35) rfl)) (hw _ (List.mem_of_getElem? (i := 1) rfl)) (hw _ (List.mem_of_getElem? (i := 36) rfl)) (hw _ (List.mem_of_getElem? (i := 37) rfl)) (hw _ (List.mem_of_getElem? (i := 2) rfl)) (by decide) (rm6l10 l Z a0 hw [] o0 p1 heap_o0 position_o0 key_o0 y1 y2 P (K.set p1.toNatClampNeg f2) h3 n0 Z0 E_o0 F_o0_heap F_o0_position F_o0_key V_heap_o0 V_position_o0 (by first | assumption | rfl | (simp only [List.length_set]; first | assumption | rfl)) V_key_o0 (by first | assumption | rfl | (simp only [List.length_set]; first | assumption | rfl)) (own_nnk nnk nnf (own_rgl rg_p1 hl_K)) rg_p1 pv_p1 g_heap_o0 ne_o0_heap_o0 ne_position_o0_heap_o0 g_position_o0 ne_o0_position_o0 (Ne.symm ne_position_o0_key_o0) (Ne.symm ne_heap_o0_key_o0)) eH3 (by rw [hml]; rfl) (a := o0) E_o0 (argsL := [(.int (0 : Int32)), (.int p1)]) rfl (lenOf pd_1 rfl) rfl d5_41 (pc' := 44) rfl (by decide) (W := 0) (Nat.le_of_eq rfl) (by decide) (by decide) (by decide) (fun T5 h5 Lc5 v5r X5 eH5 hQ5 => ?_)
  obtain ⟨rfl, Nq5, Kq5, gq5_0, gq5_1, gq5_2⟩ := hQ5
  have N5 := Fr.app N3 Nq5
  replace E_o0 := E_o0.keep Kq5
  replace F_o0_heap := F_o0_heap.keep Kq5 (ninS ne_o0_position_o0 (ninS ne_o0_heap_o0 nin0))
  replace F_o0_position := F_o0_position.keep Kq5 (ninS ne_o0_position_o0 (ninS ne_o0_heap_o0 nin0))
  replace F_o0_key := F_o0_key.keep Kq5 (ninS ne_o0_position_o0 (ninS ne_o0_heap_o0 nin0))
  replace F_o0_size := F_o0_size.keep Kq5 (ninS ne_o0_position_o0 (ninS ne_o0_heap_o0 nin0))
  replace V_key_o0 := V_key_o0.keep Kq5 (ninS (Ne.symm ne_position_o0_key_o0) (ninS (Ne.symm ne_heap_o0_key_o0) nin0))
  replace K0 := K0.trans Kq5 (allS (Or.inl (by simp)) (allS (Or.inl (by simp)) all0))
  have hl6 : (P.set p1.toNatClampNeg (0 : Int32)).length = 3 := by (repeat' split) <;> (simp only [List.length_set]; first | assumption | rfl)
  have V_position_o0 := gq5_0
  have V_heap_o0 := gq5_1
  have hp_5 : Hp1 p1 (P.set p1.toNatClampNeg (0 : Int32)) (K.set p1.toNatClampNeg f2) := gq5_2
  replace Z0 := Nat.le_trans Z0 Kq5.1
  exact own_retV X5 hx hby Bd.notSynchronized Bd.returns d5_44 (by decide) (by decide) eH5 ⟨rfl, N5, K0, V_key_o0, V_heap_o0, V_position_o0, hp_5, (own_nnk nnk nnf (own_rgl rg_p1 hl_K))⟩
theorem ef81 (m : MethodId) (x0 : Addr) : entryFrame m #[(.ref x0)] 2 = mkF m 0 #[.val (.ref x0), .unset] [] := by first | (simp [entryFrame, mkF, argsToLocals, Value.category]; done) | rfl
def Q81 (Z : State) (o0 : Addr) (heap_o0 : Addr) (position_o0 : Addr) (key_o0 : Addr) (y0 : Int32) (y1 : Int32) (y2 : Int32) (P : List Int32) (K : List UInt64) (h0 : Heap) (n0 : Nat) (v : Option Value) (h : Heap) (L : List Loc) : Prop := v = some (.int y0) ∧ Fr n0 L ∧ Keep h0 h [position_o0, o0] ∧ Ary tr Z h position_o0 .int ((P.set y0.toNatClampNeg (-1 : Int32)).map Value.int) ∧ Exa Z h o0 "com/example/cross_town/crosstown/solve/NodeHeap" ∧ Fld Z h o0 "com/example/cross_town/crosstown/solve/NodeHeap" "heap" "[I" (.ref heap_o0) ∧ Fld Z h o0 "com/example/cross_town/crosstown/solve/NodeHeap" "position" "[I" (.ref position_o0) ∧ Fld Z h o0 "com/example/cross_town/crosstown/solve/NodeHeap" "key" "[D" (.ref key_o0) ∧ Fld Z h o0 "com/example/cross_town/crosstown/solve/NodeHeap" "size" "I" (.int (0 : Int32)) ∧ (∀ z : Int32, (0 ≤ z.toInt ∧ z.toInt < 3) → pv P z = -1 → pv (P.set y0.toNatClampNeg (-1 : Int32)) z = -1) ∧ (pv (P.set y0.toNatClampNeg (-1 : Int32)) y0 = -1) ∧ (0 ≤ y0.toInt ∧ y0.toInt < 3)
set_option maxRecDepth 65536 in
set_option maxHeartbeats 40000000 in
theorem rm81 (l : Launch) (Z : State) (a0 : Array Value) (hw : ∀ d ∈ tables_1, d.before a0 Z = true) (ws : List Jvm.Cond) (o0 : Addr) (heap_o0 : Addr) (position_o0 : Addr) (key_o0 : Addr) (y0 : Int32) (y1 : Int32) (y2 : Int32) (P : List Int32) (K : List UInt64) (h0 : Heap) (n0 : Nat) (Z0 : n0 ≤ h0.size) (E_o0 : Exa Z h0 o0 "com/example/cross_town/crosstown/solve/NodeHeap") (F_o0_heap : Fld Z h0 o0 "com/example/cross_town/crosstown/solve/NodeHeap" "heap" "[I" (.ref heap_o0)) (F_o0_position : Fld Z h0 o0 "com/example/cross_town/crosstown/solve/NodeHeap" "position" "[I" (.ref position_o0)) (F_o0_key : Fld Z h0 o0 "com/example/cross_town/crosstown/solve/NodeHeap" "key" "[D" (.ref key_o0)) (V_heap_o0 : Ary tr Z h0 heap_o0 .int [(.int y0), (.int y1), (.int y2)]) (V_position_o0 : Ary tr Z h0 position_o0 .int (P.map Value.int)) (hl_P : (P.length = 3)) (V_key_o0 : Ary tr Z h0 key_o0 .double (K.map Value.double)) (hl_K : (K.length = 3)) (F_o0_size : Fld Z h0 o0 "com/example/cross_town/crosstown/solve/NodeHeap" "size" "I" (.int (1 : Int32))) (nnk : (NNk K)) (hp : (Hp1 y0 P K)) (g_position_o0 : n0 ≤ position_o0) (ne_o0_position_o0 : o0 ≠ position_o0) (ne_heap_o0_position_o0 : heap_o0 ≠ position_o0) (ne_key_o0_position_o0 : key_o0 ≠ position_o0) (g_o0 : n0 ≤ o0) (ne_heap_o0_o0 : heap_o0 ≠ o0) (ne_key_o0_o0 : key_o0 ≠ o0) :
    MetFree l (⟨"com/example/cross_town/crosstown/solve/NodeHeap", "poll", "()I"⟩ : MethodName) (head1 (Jvm.Cond.code (⟨"com/example/cross_town/crosstown/solve/NodeHeap", "poll", "()I"⟩ : MethodName) prog_33_method_4_code 2 (some .int) :: ws) ({ frames := 0, cells := 0, slots := 0, locals := 0 } : Room)) (fun a U => a = #[(.ref o0)] ∧ Z.Warmed39 U.vm ∧ U.heap = h0) (fun _ _ _ _ _ => True) (fun _ U o U' => ∃ v L, o = .returned v ∧ Q81 Z o0 heap_o0 position_o0 key_o0 y0 y1 y2 P K h0 n0 v U'.heap L ∧ FrameEnd U o U' L ({ frames := 0, cells := 0, slots := 0, locals := 0 } : Room).cells ({ frames := 0, cells := 0, slots := 0, locals := 0 } : Room).slots) := by
  refine MetFree.of_bodySF (plainFor_of_name pn_com_example_cross_town_crosstown_solve_NodeHeap) hisR ?_
  intro p e s m args below meth c s₁ Bd hml0 hP hK
  obtain ⟨rfl, hZ, hh⟩ := hP
  have hx := Bd.exec
  have hby := Bd.bytes
  have hml : c.maxLocals = 2 := hml0
  have hown : s.vm.findClass "com/example/cross_town/crosstown/solve/NodeHeap" = some m.cls := findClass_of_methodNamed Bd.named
  have hnm := (name_of_methodNamed Bd.named Bd.method).1
  have X0 : Stand p l e ({ frames := 0, cells := 0, slots := 0, locals := 0 } : Room) s m #[(.ref o0)] below meth c s₁ [] 0 0 := Stand.of_body Bd
  have eH0 : s₁.heap = h0 := by rw [← hh, Bd.state]; rfl
  have N0 := Fr.nil n0
  have K0 := Keep.refl h0 [position_o0, o0]
  show Gt p.tables e below (fun o U' => ∃ v L, o = .returned v ∧ Q81 Z o0 heap_o0 position_o0 key_o0 y0 y1 y2 P K h0 n0 v U'.heap L ∧ FrameEnd s o U' L ({ frames := 0, cells := 0, slots := 0, locals := 0 } : Room).cells ({ frames := 0, cells := 0, slots := 0, locals := 0 } : Room).slots) _
  refine own_cast (ef81 m o0) ?_
  obtain ⟨rg_y0, pv_y0⟩ := hp
  refine own_aloadN X0 hx hby rfl rfl d8_0 (pc' := 1) rfl ?_
  refine own_getF X0 hx hby hZ hown (host := "") (Or.inl (hw _ (List.mem_of_getElem? (i := 10) rfl))) Via.refl eH0 F_o0_heap d8_1 (pc' := 4) rfl (fun T1 X1 eH1 => ?_)
  refine own_iconst X1 hx hby (v := (0 : Int32)) (by decide) d8_4 (pc' := 5) rfl ?_
  refine own_iaload X1 hx hby hZ eH1 V_heap_o0 (by decide) (v := (.int y0)) rfl d8_5 (pc' := 6) rfl ?_
  refine own_istoreN X1 hx hby (L' := #[.val (.ref o0), .val (.int y0)]) rfl d8_6 (pc' := 7) rfl ?_
  refine own_aloadN X1 hx hby rfl rfl d8_7 (pc' := 8) rfl ?_
  refine own_getF X1 hx hby hZ hown (host := "") (Or.inl (hw _ (List.mem_of_getElem? (i := 12) rfl))) Via.refl eH1 F_o0_position d8_8 (pc' := 11) rfl (fun T2 X2 eH2 => ?_)
  refine own_iloadN X2 hx hby rfl d8_11 (pc' := 12) rfl ?_
  refine own_iconst X2 hx hby (v := (-1 : Int32)) (by decide) d8_12 (pc' := 13) rfl ?_
  refine own_iastore X2 hx hby hZ eH2 V_position_o0 (own_rg0 rg_y0) (n := y0.toNatClampNeg) rfl (by rw [List.length_map]; exact own_rgl rg_y0 hl_P) d8_13 (pc' := 14) rfl (fun T3 h3 X3 eH3 W3 => ?_)
  replace E_o0 := E_o0.wr W3
  replace F_o0_heap := F_o0_heap.other W3 (Or.inl ne_o0_position_o0)
  replace F_o0_position := F_o0_position.other W3 (Or.inl ne_o0_position_o0)
  replace F_o0_key := F_o0_key.other W3 (Or.inl ne_o0_position_o0)
  replace F_o0_size := F_o0_size.other W3 (Or.inl ne_o0_position_o0)
  replace V_heap_o0 := V_heap_o0.other W3 ne_heap_o0_position_o0
  replace V_key_o0 := V_key_o0.other W3 ne_key_o0_position_o0
  have N3 := Fr.snoc X3 N0 g_position_o0
  replace K0 := K0.wr W3 (Or.inl (by simp))
  replace Z0 := Nat.le_trans Z0 (Nat.le_of_eq W3.size.symm)
  have hl4 : (P.set y0.toNatClampNeg (-1 : Int32)).length = 3 := by rw [List.length_set]; exact hl_P
  replace V_position_o0 : Ary tr Z h3 position_o0 .int ((P.set y0.toNatClampNeg (-1 : Int32)).map Value.int) := by rw [List.map_set]; exact V_position_o0.set W3
  refine own_aloadN X3 hx hby rfl rfl d8_14 (pc' := 15) rfl ?_
  refine own_dup X3 hx hby rfl d8_15 (pc' := 16) rfl ?_
  refine own_getF X3 hx hby hZ hown (host := "") (Or.inl (hw _ (List.mem_of_getElem? (i := 26) rfl))) Via.refl eH3 F_o0_size d8_16 (pc' := 19) rfl (fun T5 X5 eH5 => ?_)
  refine own_iconst X5 hx hby (v := (1 : Int32)) (by decide) d8_19 (pc' := 20) rfl ?_
  refine own_isub X5 hx hby (v := (0 : Int32)) (by decide) d8_20 (pc' := 21) rfl ?_
  refine own_putF X5 hx hby hZ hown (host := "") (Or.inl (hw _ (List.mem_of_getElem? (i := 26) rfl))) Via.refl eH5 F_o0_size E_o0 (Or.inl (hw _ (List.mem_of_getElem? (i := 27) rfl))) (hw _ (List.mem_of_getElem? (i := 1) rfl)) (ty := .int) (by decide) rfl rfl d8_21 (pc' := 24) rfl (fun T6 h6 X6 eH6 W6 => ?_)
  replace E_o0 := E_o0.wr W6
  replace F_o0_heap := F_o0_heap.other W6 (Or.inr (slot_ne (Or.inr (hw _ (List.mem_of_getElem? (i := 11) rfl))) (Or.inl (hw _ (List.mem_of_getElem? (i := 27) rfl))) (by decide) (t := (.array .int)) (t' := .int) (by decide) (by decide)))
  replace F_o0_position := F_o0_position.other W6 (Or.inr (slot_ne (Or.inr (hw _ (List.mem_of_getElem? (i := 13) rfl))) (Or.inl (hw _ (List.mem_of_getElem? (i := 27) rfl))) (by decide) (t := (.array .int)) (t' := .int) (by decide) (by decide)))
  replace F_o0_key := F_o0_key.other W6 (Or.inr (slot_ne (Or.inr (hw _ (List.mem_of_getElem? (i := 16) rfl))) (Or.inl (hw _ (List.mem_of_getElem? (i := 27) rfl))) (by decide) (t := (.array .double)) (t' := .int) (by decide) (by decide)))
  replace F_o0_size := F_o0_size.same W6
  replace V_heap_o0 := V_heap_o0.other W6 ne_heap_o0_o0
  replace V_position_o0 := V_position_o0.other W6 (Ne.symm ne_o0_position_o0)
  replace V_key_o0 := V_key_o0.other W6 ne_key_o0_o0
  have N6 := Fr.snoc X6 N3 g_o0
  replace K0 := K0.wr W6 (Or.inl (by simp))
  replace Z0 := Nat.le_trans Z0 (Nat.le_of_eq W6.size.symm)
  refine own_aloadN X6 hx hby rfl rfl d8_24 (pc' := 25) rfl ?_
  refine own_getF X6 hx hby hZ hown (host := "") (Or.inl (hw _ (List.mem_of_getElem? (i := 26) rfl))) Via.refl eH6 F_o0_size d8_25 (pc' := 28) rfl (fun T7 X7 eH7 => ?_)
  refine own_ifT X7 hx hby d8_28 (by decide) (by decide) (pc' := 45) (by decide) ?_
  refine own_iloadN X7 hx hby rfl d8_45 (pc' := 46) rfl ?_
  have HA0 : ∀ z : Int32, (0 ≤ z.toInt ∧ z.toInt < 3) → pv P z = -1 → pv (P.set y0.toNatClampNeg (-1 : Int32)) z = -1 := fun z rgz hz => (by rw [own_pvs hl_P rg_y0 rgz, if_neg (own_pne pv_y0 hz (by decide))]; exact hz)
  have HZ0 : pv (P.set y0.toNatClampNeg (-1 : Int32)) y0 = -1 := (by rw [own_pvs hl_P rg_y0 rg_y0, if_pos rfl]; first | done | decide)
  exact own_retI X7 hx hby Bd.notSynchronized Bd.returns d8_46 (by decide) (by decide) eH7 ⟨rfl, N6, K0, V_position_o0, E_o0, F_o0_heap, F_o0_position, F_o0_key, F_o0_size, HA0, HZ0, rg_y0⟩
theorem ef82 (m : MethodId) (x0 : Addr) : entryFrame m #[(.ref x0)] 2 = mkF m 0 #[.val (.ref x0), .unset] [] := by first | (simp [entryFrame, mkF, argsToLocals, Value.category]; done) | rfl
def Q82 (Z : State) (o0 : Addr) (heap_o0 : Addr) (position_o0 : Addr) (key_o0 : Addr) (y0 : Int32) (y1 : Int32) (y2 : Int32) (P : List Int32) (K : List UInt64) (h0 : Heap) (n0 : Nat) (v : Option Value) (h : Heap) (L : List Loc) : Prop := v = some (.int y0) ∧ Fr n0 L ∧ Keep h0 h [position_o0, o0, heap_o0] ∧ Ary tr Z h position_o0 .int (((P.set y0.toNatClampNeg (-1 : Int32)).set y1.toNatClampNeg (0 : Int32)).map Value.int) ∧ Exa Z h o0 "com/example/cross_town/crosstown/solve/NodeHeap" ∧ Fld Z h o0 "com/example/cross_town/crosstown/solve/NodeHeap" "heap" "[I" (.ref heap_o0) ∧ Fld Z h o0 "com/example/cross_town/crosstown/solve/NodeHeap" "position" "[I" (.ref position_o0) ∧ Fld Z h o0 "com/example/cross_town/crosstown/solve/NodeHeap" "key" "[D" (.ref key_o0) ∧ Fld Z h o0 "com/example/cross_town/crosstown/solve/NodeHeap" "size" "I" (.int (1 : Int32)) ∧ Ary tr Z h heap_o0 .int [(.int y1), (.int y1), (.int y2)] ∧ (Hp1 y1 ((P.set y0.toNatClampNeg (-1 : Int32)).set y1.toNatClampNeg (0 : Int32)) K) ∧ (∀ z : Int32, (0 ≤ z.toInt ∧ z.toInt < 3) → pv P z = -1 → pv ((P.set y0.toNatClampNeg (-1 : Int32)).set y1.toNatClampNeg (0 : Int32)) z = -1) ∧ (pv ((P.set y0.toNatClampNeg (-1 : Int32)).set y1.toNatClampNeg (0 : Int32)) y0 = -1) ∧ (0 ≤ y0.toInt ∧ y0.toInt < 3) ∧ (kv K y0 ≤ kv K y1)
set_option maxRecDepth 65536 in
set_option maxHeartbeats 40000000 in
theorem rm82 (l : Launch) (Z : State) (a0 : Array Value) (hw : ∀ d ∈ tables_1, d.before a0 Z = true) (ws : List Jvm.Cond) (o0 : Addr) (heap_o0 : Addr) (position_o0 : Addr) (key_o0 : Addr) (y0 : Int32) (y1 : Int32) (y2 : Int32) (P : List Int32) (K : List UInt64) (h0 : Heap) (n0 : Nat) (Z0 : n0 ≤ h0.size) (E_o0 : Exa Z h0 o0 "com/example/cross_town/crosstown/solve/NodeHeap") (F_o0_heap : Fld Z h0 o0 "com/example/cross_town/crosstown/solve/NodeHeap" "heap" "[I" (.ref heap_o0)) (F_o0_position : Fld Z h0 o0 "com/example/cross_town/crosstown/solve/NodeHeap" "position" "[I" (.ref position_o0)) (F_o0_key : Fld Z h0 o0 "com/example/cross_town/crosstown/solve/NodeHeap" "key" "[D" (.ref key_o0)) (V_heap_o0 : Ary tr Z h0 heap_o0 .int [(.int y0), (.int y1), (.int y2)]) (V_position_o0 : Ary tr Z h0 position_o0 .int (P.map Value.int)) (hl_P : (P.length = 3)) (V_key_o0 : Ary tr Z h0 key_o0 .double (K.map Value.double)) (hl_K : (K.length = 3)) (F_o0_size : Fld Z h0 o0 "com/example/cross_town/crosstown/solve/NodeHeap" "size" "I" (.int (2 : Int32))) (nnk : (NNk K)) (hp : (Hp2 y0 y1 P K)) (g_position_o0 : n0 ≤ position_o0) (ne_o0_position_o0 : o0 ≠ position_o0) (ne_heap_o0_position_o0 : heap_o0 ≠ position_o0) (ne_key_o0_position_o0 : key_o0 ≠ position_o0) (g_o0 : n0 ≤ o0) (ne_heap_o0_o0 : heap_o0 ≠ o0) (ne_key_o0_o0 : key_o0 ≠ o0) (g_heap_o0 : n0 ≤ heap_o0) (ne_key_o0_heap_o0 : key_o0 ≠ heap_o0) :
    MetFree l (⟨"com/example/cross_town/crosstown/solve/NodeHeap", "poll", "()I"⟩ : MethodName) (head1 (Jvm.Cond.code (⟨"com/example/cross_town/crosstown/solve/NodeHeap", "poll", "()I"⟩ : MethodName) prog_33_method_4_code 2 (some .int) :: ws) ({ frames := 2, cells := 0, slots := 0, locals := 30 } : Room)) (fun a U => a = #[(.ref o0)] ∧ Z.Warmed39 U.vm ∧ U.heap = h0) (fun _ _ _ _ _ => True) (fun _ U o U' => ∃ v L, o = .returned v ∧ Q82 Z o0 heap_o0 position_o0 key_o0 y0 y1 y2 P K h0 n0 v U'.heap L ∧ FrameEnd U o U' L ({ frames := 2, cells := 0, slots := 0, locals := 30 } : Room).cells ({ frames := 2, cells := 0, slots := 0, locals := 30 } : Room).slots) := by
  refine MetFree.of_bodySF (plainFor_of_name pn_com_example_cross_town_crosstown_solve_NodeHeap) hisR ?_
  intro p e s m args below meth c s₁ Bd hml0 hP hK
  obtain ⟨rfl, hZ, hh⟩ := hP
  have hx := Bd.exec
  have hby := Bd.bytes
  have hml : c.maxLocals = 2 := hml0
  have hown : s.vm.findClass "com/example/cross_town/crosstown/solve/NodeHeap" = some m.cls := findClass_of_methodNamed Bd.named
  have hnm := (name_of_methodNamed Bd.named Bd.method).1
  have X0 : Stand p l e ({ frames := 2, cells := 0, slots := 0, locals := 30 } : Room) s m #[(.ref o0)] below meth c s₁ [] 0 0 := Stand.of_body Bd
  have eH0 : s₁.heap = h0 := by rw [← hh, Bd.state]; rfl
  have N0 := Fr.nil n0
  have K0 := Keep.refl h0 [position_o0, o0, heap_o0]
  show Gt p.tables e below (fun o U' => ∃ v L, o = .returned v ∧ Q82 Z o0 heap_o0 position_o0 key_o0 y0 y1 y2 P K h0 n0 v U'.heap L ∧ FrameEnd s o U' L ({ frames := 2, cells := 0, slots := 0, locals := 30 } : Room).cells ({ frames := 2, cells := 0, slots := 0, locals := 30 } : Room).slots) _
  refine own_cast (ef82 m o0) ?_
  obtain ⟨rg_y0, rg_y1, pv_y0, pv_y1, ord1⟩ := hp
  have d_y0_y1 : ¬ y0.toInt = y1.toInt := own_pne pv_y0 pv_y1 (by decide)
  have d_y1_y0 : ¬ y1.toInt = y0.toInt := own_pne pv_y1 pv_y0 (by decide)
  refine own_aloadN X0 hx hby rfl rfl d8_0 (pc' := 1) rfl ?_
  refine own_getF X0 hx hby hZ hown (host := "") (Or.inl (hw _ (List.mem_of_getElem? (i := 10) rfl))) Via.refl eH0 F_o0_heap d8_1 (pc' := 4) rfl (fun T1 X1 eH1 => ?_)
  refine own_iconst X1 hx hby (v := (0 : Int32)) (by decide) d8_4 (pc' := 5) rfl ?_
  refine own_iaload X1 hx hby hZ eH1 V_heap_o0 (by decide) (v := (.int y0)) rfl d8_5 (pc' := 6) rfl ?_
  refine own_istoreN X1 hx hby (L' := #[.val (.ref o0), .val (.int y0)]) rfl d8_6 (pc' := 7) rfl ?_
  refine own_aloadN X1 hx hby rfl rfl d8_7 (pc' := 8) rfl ?_
  refine own_getF X1 hx hby hZ hown (host := "") (Or.inl (hw _ (List.mem_of_getElem? (i := 12) rfl))) Via.refl eH1 F_o0_position d8_8 (pc' := 11) rfl (fun T2 X2 eH2 => ?_)
  refine own_iloadN X2 hx hby rfl d8_11 (pc' := 12) rfl ?_
  refine own_iconst X2 hx hby (v := (-1 : Int32)) (by decide) d8_12 (pc' := 13) rfl ?_
  refine own_iastore X2 hx hby hZ eH2 V_position_o0 (own_rg0 rg_y0) (n := y0.toNatClampNeg) rfl (by rw [List.length_map]; exact own_rgl rg_y0 hl_P) d8_13 (pc' := 14) rfl (fun T3 h3 X3 eH3 W3 => ?_)
  replace E_o0 := E_o0.wr W3
  replace F_o0_heap := F_o0_heap.other W3 (Or.inl ne_o0_position_o0)
  replace F_o0_position := F_o0_position.other W3 (Or.inl ne_o0_position_o0)
  replace F_o0_key := F_o0_key.other W3 (Or.inl ne_o0_position_o0)
  replace F_o0_size := F_o0_size.other W3 (Or.inl ne_o0_position_o0)
  replace V_heap_o0 := V_heap_o0.other W3 ne_heap_o0_position_o0
  replace V_key_o0 := V_key_o0.other W3 ne_key_o0_position_o0
  have N3 := Fr.snoc X3 N0 g_position_o0
  replace K0 := K0.wr W3 (Or.inl (by simp))
  replace Z0 := Nat.le_trans Z0 (Nat.le_of_eq W3.size.symm)
  have hl4 : (P.set y0.toNatClampNeg (-1 : Int32)).length = 3 := by rw [List.length_set]; exact hl_P
  replace V_position_o0 : Ary tr Z h3 position_o0 .int ((P.set y0.toNatClampNeg (-1 : Int32)).map Value.int) := by rw [List.map_set]; exact V_position_o0.set W3
  refine own_aloadN X3 hx hby rfl rfl d8_14 (pc' := 15) rfl ?_
  refine own_dup X3 hx hby rfl d8_15 (pc' := 16) rfl ?_
  refine own_getF X3 hx hby hZ hown (host := "") (Or.inl (hw _ (List.mem_of_getElem? (i := 26) rfl))) Via.refl eH3 F_o0_size d8_16 (pc' := 19) rfl (fun T5 X5 eH5 => ?_)
  refine own_iconst X5 hx hby (v := (1 : Int32)) (by decide) d8_19 (pc' := 20) rfl ?_
  refine own_isub X5 hx hby (v := (1 : Int32)) (by decide) d8_20 (pc' := 21) rfl ?_
  refine own_putF X5 hx hby hZ hown (host := "") (Or.inl (hw _ (List.mem_of_getElem? (i := 26) rfl))) Via.refl eH5 F_o0_size E_o0 (Or.inl (hw _ (List.mem_of_getElem? (i := 27) rfl))) (hw _ (List.mem_of_getElem? (i := 1) rfl)) (ty := .int) (by decide) rfl rfl d8_21 (pc' := 24) rfl (fun T6 h6 X6 eH6 W6 => ?_)
  replace E_o0 := E_o0.wr W6
  replace F_o0_heap := F_o0_heap.other W6 (Or.inr (slot_ne (Or.inr (hw _ (List.mem_of_getElem? (i := 11) rfl))) (Or.inl (hw _ (List.mem_of_getElem? (i := 27) rfl))) (by decide) (t := (.array .int)) (t' := .int) (by decide) (by decide)))
  replace F_o0_position := F_o0_position.other W6 (Or.inr (slot_ne (Or.inr (hw _ (List.mem_of_getElem? (i := 13) rfl))) (Or.inl (hw _ (List.mem_of_getElem? (i := 27) rfl))) (by decide) (t := (.array .int)) (t' := .int) (by decide) (by decide)))
  replace F_o0_key := F_o0_key.other W6 (Or.inr (slot_ne (Or.inr (hw _ (List.mem_of_getElem? (i := 16) rfl))) (Or.inl (hw _ (List.mem_of_getElem? (i := 27) rfl))) (by decide) (t := (.array .double)) (t' := .int) (by decide) (by decide)))
  replace F_o0_size := F_o0_size.same W6
  replace V_heap_o0 := V_heap_o0.other W6 ne_heap_o0_o0
  replace V_position_o0 := V_position_o0.other W6 (Ne.symm ne_o0_position_o0)
  replace V_key_o0 := V_key_o0.other W6 ne_key_o0_o0
  have N6 := Fr.snoc X6 N3 g_o0
  replace K0 := K0.wr W6 (Or.inl (by simp))
  replace Z0 := Nat.le_trans Z0 (Nat.le_of_eq W6.size.symm)
  refine own_aloadN X6 hx hby rfl rfl d8_24 (pc' := 25) rfl ?_
  refine own_getF X6 hx hby hZ hown (host := "") (Or.inl (hw _ (List.mem_of_getElem? (i := 26) rfl))) Via.refl eH6 F_o0_size d8_25 (pc' := 28) rfl (fun T7 X7 eH7 => ?_)
  refine own_ifF X7 hx hby d8_28 (by decide) (pc' := 31) rfl ?_
  refine own_aloadN X7 hx hby rfl rfl d8_31 (pc' := 32) rfl ?_
  refine own_iconst X7 hx hby (v := (0 : Int32)) (by decide) d8_32 (pc' := 33) rfl ?_
  refine own_aloadN X7 hx hby rfl rfl d8_33 (pc' := 34) rfl ?_
  refine own_getF X7 hx hby hZ hown (host := "") (Or.inl (hw _ (List.mem_of_getElem? (i := 10) rfl))) Via.refl eH7 F_o0_heap d8_34 (pc' := 37) rfl (fun T8 X8 eH8 => ?_)
  refine own_aloadN X8 hx hby rfl rfl d8_37 (pc' := 38) rfl ?_
  refine own_getF X8 hx hby hZ hown (host := "") (Or.inl (hw _ (List.mem_of_getElem? (i := 26) rfl))) Via.refl eH8 F_o0_size d8_38 (pc' := 41) rfl (fun T9 X9 eH9 => ?_)
  refine own_iaload X9 hx hby hZ eH9 V_heap_o0 (by decide) (v := (.int y1)) rfl d8_41 (pc' := 42) rfl ?_
  refine own_private X9 hx hby hZ (y := (⟨"com/example/cross_town/crosstown/solve/NodeHeap", "siftDown", "(II)V"⟩ : MethodName)) (rest := []) hown (hw _ (List.mem_of_getElem? (i := 47) rfl)) (hw _ (List.mem_of_getElem? (i := 48) rfl)) (hw _ (List.mem_of_getElem? (i := 1) rfl)) (hw _ (List.mem_of_getElem? (i := 49) rfl)) (hw _ (List.mem_of_getElem? (i := 50) rfl)) (hw _ (List.mem_of_getElem? (i := 2) rfl)) (by decide) (rm91 l Z a0 hw [] o0 y1 heap_o0 position_o0 key_o0 y0 y1 y2 (P.set y0.toNatClampNeg (-1 : Int32)) K h6 n0 Z0 E_o0 F_o0_heap F_o0_position F_o0_key V_heap_o0 V_position_o0 (by first | assumption | rfl | (simp only [List.length_set]; first | assumption | rfl)) V_key_o0 (by first | assumption | rfl | (simp only [List.length_set]; first | assumption | rfl)) F_o0_size rg_y1 nnk (by rw [own_pvs hl_P rg_y0 rg_y1, if_neg d_y0_y1]; exact pv_y1) g_heap_o0 (Ne.symm ne_heap_o0_o0) (Ne.symm ne_heap_o0_position_o0) g_position_o0 ne_o0_position_o0 ne_key_o0_position_o0 ne_key_o0_heap_o0) eH9 (by rw [hml]; rfl) (a := o0) E_o0 (argsL := [(.int (0 : Int32)), (.int y1)]) rfl (lenOf pd_1 rfl) rfl d8_42 (pc' := 45) rfl (by decide) (W := 0) (Nat.le_of_eq rfl) (by decide) (by decide) (by decide) (fun T10 h10 Lc10 v10r X10 eH10 hQ10 => ?_)
  obtain ⟨rfl, Nq10, Kq10, gq10_0, gq10_1, gq10_2, gq10_3, gq10_4⟩ := hQ10
  have N10 := Fr.app N6 Nq10
  replace E_o0 := E_o0.keep Kq10
  replace F_o0_heap := F_o0_heap.keep Kq10 (ninS ne_o0_position_o0 (ninS (Ne.symm ne_heap_o0_o0) nin0))
  replace F_o0_position := F_o0_position.keep Kq10 (ninS ne_o0_position_o0 (ninS (Ne.symm ne_heap_o0_o0) nin0))
  replace F_o0_key := F_o0_key.keep Kq10 (ninS ne_o0_position_o0 (ninS (Ne.symm ne_heap_o0_o0) nin0))
  replace F_o0_size := F_o0_size.keep Kq10 (ninS ne_o0_position_o0 (ninS (Ne.symm ne_heap_o0_o0) nin0))
  replace V_key_o0 := V_key_o0.keep Kq10 (ninS ne_key_o0_position_o0 (ninS ne_key_o0_heap_o0 nin0))
  replace K0 := K0.trans Kq10 (allS (Or.inl (by simp)) (allS (Or.inl (by simp)) all0))
  have hl11 : ((P.set y0.toNatClampNeg (-1 : Int32)).set y1.toNatClampNeg (0 : Int32)).length = 3 := by (repeat' split) <;> (simp only [List.length_set]; first | assumption | rfl)
  have V_position_o0 := gq10_0
  have V_heap_o0 := gq10_1
  have hp_10 : Hp1 y1 ((P.set y0.toNatClampNeg (-1 : Int32)).set y1.toNatClampNeg (0 : Int32)) K := gq10_2
  have ab_10 : ∀ z : Int32, (0 ≤ z.toInt ∧ z.toInt < 3) → pv (P.set y0.toNatClampNeg (-1 : Int32)) z = -1 → pv ((P.set y0.toNatClampNeg (-1 : Int32)).set y1.toNatClampNeg (0 : Int32)) z = -1 := gq10_3
  have lb_10 : ∀ m : Int, m ≤ kv K y1 → m ≤ kv K y1 := gq10_4
  replace Z0 := Nat.le_trans Z0 Kq10.1
  refine own_iloadN X10 hx hby rfl d8_45 (pc' := 46) rfl ?_
  have HA0 : ∀ z : Int32, (0 ≤ z.toInt ∧ z.toInt < 3) → pv P z = -1 → pv (P.set y0.toNatClampNeg (-1 : Int32)) z = -1 := fun z rgz hz => (by rw [own_pvs hl_P rg_y0 rgz, if_neg (own_pne pv_y0 hz (by decide))]; exact hz)
  have HZ0 : pv (P.set y0.toNatClampNeg (-1 : Int32)) y0 = -1 := (by rw [own_pvs hl_P rg_y0 rg_y0, if_pos rfl]; first | done | decide)
  exact own_retI X10 hx hby Bd.notSynchronized Bd.returns d8_46 (by decide) (by decide) eH10 ⟨rfl, N10, K0, V_position_o0, E_o0, F_o0_heap, F_o0_position, F_o0_key, F_o0_size, V_heap_o0, hp_10, (fun z rgz hz => ab_10 z rgz (HA0 z rgz hz)), (ab_10 y0 rg_y0 HZ0), rg_y0, (lb_10 (kv K y0) (by omega))⟩
theorem ef0 (m : MethodId) (x0 : Int32) (x1 : Int32) (x2 : Int32) (x3 : Int32) (x4 : Int32) : entryFrame m #[(.int x0), (.int x1), (.int x2), (.int x3), (.int x4)] maxLocals = mkF m 0 #[.val (.int x0), .val (.int x1), .val (.int x2), .val (.int x3), .val (.int x4), .unset, .unset, .unset, .unset, .unset, .unset, .unset, .unset] [] := by first | (simp [entryFrame, mkF, argsToLocals, Value.category, maxLocals]; done) | rfl
def Q0 (Z : State) (p0 : Int32) (p1 : Int32) (p2 : Int32) (p3 : Int32) (p4 : Int32) (h0 : Heap) (n0 : Nat) (v : Option Value) (h : Heap) (L : List Loc) : Prop := v = some (.int 1) ∧ Fr n0 L
set_option maxRecDepth 65536 in
set_option maxHeartbeats 40000000 in
theorem rm0 (l : Launch) (Z : State) (a0 : Array Value) (hw : ∀ d ∈ tables_1, d.before a0 Z = true) (ws : List Jvm.Cond) (p0 : Int32) (p1 : Int32) (p2 : Int32) (p3 : Int32) (p4 : Int32) (h0 : Heap) (n0 : Nat) (Z0 : n0 ≤ h0.size) :
    MetFree l x (head1 (Jvm.Cond.code x code maxLocals ret :: ws) room_1) (fun a U => a = #[(.int p0), (.int p1), (.int p2), (.int p3), (.int p4)] ∧ Z.Warmed39 U.vm ∧ U.heap = h0) (fun _ _ _ _ _ => True) (fun _ U o U' => ∃ v L, o = .returned v ∧ Q0 Z p0 p1 p2 p3 p4 h0 n0 v U'.heap L ∧ FrameEnd U o U' L 16 128) := by
  refine MetFree.of_bodySF (plainFor_of_name pn_com_example_cross_town_crosstown_solve_NodeHeapIsEmptyPinLaw) hisR ?_
  intro p e s m args below meth c s₁ Bd hml0 hP hK
  obtain ⟨rfl, hZ, hh⟩ := hP
  have hx := Bd.exec
  have hby := Bd.bytes
  have hml : c.maxLocals = 13 := hml0
  have hown : s.vm.findClass "com/example/cross_town/crosstown/solve/NodeHeapIsEmptyPinLaw" = some m.cls := findClass_of_methodNamed Bd.named
  have hnm := (name_of_methodNamed Bd.named Bd.method).1
  have X0 : Stand p l e room_1 s m #[(.int p0), (.int p1), (.int p2), (.int p3), (.int p4)] below meth c s₁ [] 0 0 := Stand.of_body Bd
  have eH0 : s₁.heap = h0 := by rw [← hh, Bd.state]; rfl
  have N0 := Fr.nil n0
  show Gt p.tables e below (fun o U' => ∃ v L, o = .returned v ∧ Q0 Z p0 p1 p2 p3 p4 h0 n0 v U'.heap L ∧ FrameEnd s o U' L 16 128) _
  refine own_cast (ef0 m p0 p1 p2 p3 p4) ?_
  refine own_newO X0 hx hby hZ hown (hw _ (List.mem_of_getElem? (i := 0) rfl)) (hw _ (List.mem_of_getElem? (i := 1) rfl)) (hw _ (List.mem_of_getElem? (i := 2) rfl)) eH0 at_0 (pc' := 3) rfl (by decide) (by decide) (fun T1 h1 b1 X1 eH1 E1 g1 E_b1 D1 => ?_)
  have g_b1 : n0 ≤ b1 := g1 ▸ Z0
  replace Z0 := Nat.le_trans Z0 E1.1
  have F_b1_heap : Fld Z h1 b1 "com/example/cross_town/crosstown/solve/NodeHeap" "heap" "[I" .null := D1 (Or.inr (hw _ (List.mem_of_getElem? (i := 11) rfl))) (ty := (.array .int)) (by decide)
  have F_b1_position : Fld Z h1 b1 "com/example/cross_town/crosstown/solve/NodeHeap" "position" "[I" .null := D1 (Or.inr (hw _ (List.mem_of_getElem? (i := 13) rfl))) (ty := (.array .int)) (by decide)
  have F_b1_key : Fld Z h1 b1 "com/example/cross_town/crosstown/solve/NodeHeap" "key" "[D" .null := D1 (Or.inr (hw _ (List.mem_of_getElem? (i := 16) rfl))) (ty := (.array .double)) (by decide)
  have F_b1_size : Fld Z h1 b1 "com/example/cross_town/crosstown/solve/NodeHeap" "size" "I" (.int (0 : Int32)) := D1 (Or.inl (hw _ (List.mem_of_getElem? (i := 27) rfl))) (ty := .int) (by decide)
  refine own_dup X1 hx hby rfl at_3 (pc' := 4) rfl ?_
  refine own_iconst X1 hx hby (v := (3 : Int32)) (by decide) at_4 (pc' := 5) rfl ?_
  refine own_special X1 hx hby hZ (y := (⟨"com/example/cross_town/crosstown/solve/NodeHeap", "<init>", "(I)V"⟩ : MethodName)) (rest := [(.ref b1)]) rfl hown (hw _ (List.mem_of_getElem? (i := 3) rfl)) (hw _ (List.mem_of_getElem? (i := 4) rfl)) rfl (hw _ (List.mem_of_getElem? (i := 5) rfl)) (hw _ (List.mem_of_getElem? (i := 2) rfl)) (by decide) (rm1 l Z a0 hw [] b1 .null .null .null (0 : Int32) h1 n0 Z0 F_b1_heap F_b1_position F_b1_key F_b1_size E_b1 g_b1) eH1 (by rw [hml]; rfl) (a := b1) (argsL := [(.int (3 : Int32))]) rfl (lenOf pd_2 rfl) rfl at_5 (pc' := 8) rfl (by decide) (W := 1) (Nat.le_of_eq rfl) (by decide) (by decide) (by decide) (fun T2 h2 Lc2 v2r X2 eH2 hQ2 => ?_)
  obtain ⟨b2_2, b4_2, b6_2, rfl, Nq2, Kq2, gq2_0, gq2_1, gq2_2, gq2_3, gq2_4, gq2_5, gq2_6, gq2_7, gq2_8, gq2_9, gq2_10, gq2_11, gq2_12, gq2_13, gq2_14, gq2_15, gq2_16⟩ := hQ2
  have N2 := Fr.app N0 Nq2
  have g_b2_2 : n0 ≤ b2_2 := Nat.le_trans Z0 gq2_0
  have ne_b1_b2_2 : b1 ≠ b2_2 := Nat.ne_of_lt (Nat.lt_of_lt_of_le E_b1.lt gq2_0)
  have g_b4_2 : n0 ≤ b4_2 := Nat.le_trans Z0 gq2_1
  have ne_b1_b4_2 : b1 ≠ b4_2 := Nat.ne_of_lt (Nat.lt_of_lt_of_le E_b1.lt gq2_1)
  have g_b6_2 : n0 ≤ b6_2 := Nat.le_trans Z0 gq2_2
  have ne_b1_b6_2 : b1 ≠ b6_2 := Nat.ne_of_lt (Nat.lt_of_lt_of_le E_b1.lt gq2_2)
  replace E_b1 := E_b1.keep Kq2
  have ne_b2_2_b4_2 := gq2_3
  have ne_b2_2_b6_2 := gq2_4
  have ne_b4_2_b6_2 := gq2_5
  have E_b1 := gq2_6
  have F_b1_heap := gq2_7
  have F_b1_position := gq2_8
  have F_b1_key := gq2_9
  have F_b1_size := gq2_10
  have E_b2_2 := gq2_11
  have V_b2_2 := gq2_12
  have E_b4_2 := gq2_13
  have V_b4_2 := gq2_14
  have E_b6_2 := gq2_15
  have V_b6_2 := gq2_16
  replace Z0 := Nat.le_trans Z0 Kq2.1
  refine own_astore X2 hx hby rfl (L' := #[.val (.int p0), .val (.int p1), .val (.int p2), .val (.int p3), .val (.int p4), .val (.ref b1), .unset, .unset, .unset, .unset, .unset, .unset, .unset]) rfl at_8 (pc' := 10) rfl ?_
  refine own_aload X2 hx hby rfl rfl at_10 (pc' := 12) rfl ?_
  refine own_virtual X2 hx hby hZ (y := (⟨"com/example/cross_town/crosstown/solve/NodeHeap", "isEmpty", "()Z"⟩ : MethodName)) (y' := (⟨"com/example/cross_town/crosstown/solve/NodeHeap", "isEmpty", "()Z"⟩ : MethodName)) (C := "com/example/cross_town/crosstown/solve/NodeHeap") (rest := []) hown (hw _ (List.mem_of_getElem? (i := 21) rfl)) (hw _ (List.mem_of_getElem? (i := 22) rfl)) (notFace_of_selects (args := #[]) (mvT hZ (hw _ (List.mem_of_getElem? (i := 24) rfl)))) (hw _ (List.mem_of_getElem? (i := 24) rfl)) (hw _ (List.mem_of_getElem? (i := 23) rfl)) (hw _ (List.mem_of_getElem? (i := 25) rfl)) (hw _ (List.mem_of_getElem? (i := 2) rfl)) (by decide) (rm4 l Z a0 hw [] b1 (0 : Int32) h2 n0 Z0 F_b1_size) eH2 (by rw [hml]; rfl) (a := b1) E_b1 (argsL := []) rfl (lenOf pd_3 rfl) rfl at_12 (pc' := 15) rfl (by decide) (W := 0) (Nat.le_of_eq rfl) (by decide) (by decide) (by decide) (fun T3 h3 Lc3 v3r X3 eH3 hQ3 => ?_)
  obtain ⟨rfl, Nq3, rfl⟩ := hQ3
  have N3 := Fr.app N2 Nq3
  dsimp only [Option.toList, List.cons_append, List.nil_append]
  generalize q_r4 : (if (0 : Int32) = 0 then (1 : Int32) else (0 : Int32)) = r4
  have hk5 : ¬ (r4 = 0) := by rw [← q_r4]; decide
  refine own_ifT X3 hx hby at_15 (own_i0_ne_n hk5) (by decide) (pc' := 20) (by decide) ?_
  refine own_iloadN X3 hx hby rfl at_20 (pc' := 21) rfl ?_
  refine own_ldcI X3 hx hby hZ hown (hw _ (List.mem_of_getElem? (i := 28) rfl)) at_21 (pc' := 23) rfl ?_
  refine own_iand X3 hx hby rfl at_23 (pc' := 24) rfl ?_
  refine own_iconst X3 hx hby (v := (3 : Int32)) (by decide) at_24 (pc' := 25) rfl ?_
  refine own_irem X3 hx hby (by decide) rfl at_25 (pc' := 26) rfl ?_
  generalize q_n6 : ((p0 &&& (2147483647 : Int32)) % (3 : Int32)) = n6
  refine own_istore X3 hx hby (L' := #[.val (.int p0), .val (.int p1), .val (.int p2), .val (.int p3), .val (.int p4), .val (.ref b1), .val (.int n6), .unset, .unset, .unset, .unset, .unset, .unset]) rfl at_26 (pc' := 28) rfl ?_
  have rg_n6 := own_idx p0 (3 : Int32) 3 (by decide) (by decide)
  rw [q_n6] at rg_n6
  refine own_iloadN X3 hx hby rfl at_28 (pc' := 29) rfl ?_
  refine own_sipush X3 hx hby (v := (255 : Int32)) (by decide) at_29 (pc' := 32) rfl ?_
  refine own_iand X3 hx hby rfl at_32 (pc' := 33) rfl ?_
  obtain ⟨v7, q_v7⟩ : ∃ z : UInt64, (FP.i2d (p3 &&& (255 : Int32))) = z := ⟨_, rfl⟩
  have D_v7 : Dy v7 (p3 &&& (255 : Int32)).toInt 0 := q_v7 ▸ dy_i2d (p3 &&& (255 : Int32))
  have R_v7 := own_m255 p3
  refine own_i2d X3 hx hby q_v7 at_33 (pc' := 34) rfl ?_
  refine own_dstore X3 hx hby (L' := #[.val (.int p0), .val (.int p1), .val (.int p2), .val (.int p3), .val (.int p4), .val (.ref b1), .val (.int n6), .val (.double v7), .second, .unset, .unset, .unset, .unset]) rfl at_34 (pc' := 36) rfl ?_
  refine own_aload X3 hx hby rfl rfl at_36 (pc' := 38) rfl ?_
  refine own_iload X3 hx hby rfl at_38 (pc' := 40) rfl ?_
  refine own_dload X3 hx hby rfl at_40 (pc' := 42) rfl ?_
  refine own_virtual X3 hx hby hZ (y := (⟨"com/example/cross_town/crosstown/solve/NodeHeap", "insertOrLower", "(ID)V"⟩ : MethodName)) (y' := (⟨"com/example/cross_town/crosstown/solve/NodeHeap", "insertOrLower", "(ID)V"⟩ : MethodName)) (C := "com/example/cross_town/crosstown/solve/NodeHeap") (rest := []) hown (hw _ (List.mem_of_getElem? (i := 29) rfl)) (hw _ (List.mem_of_getElem? (i := 30) rfl)) (notFace_of_selects (args := #[]) (mvT hZ (hw _ (List.mem_of_getElem? (i := 32) rfl)))) (hw _ (List.mem_of_getElem? (i := 32) rfl)) (hw _ (List.mem_of_getElem? (i := 31) rfl)) (hw _ (List.mem_of_getElem? (i := 33) rfl)) (hw _ (List.mem_of_getElem? (i := 2) rfl)) (by decide) (rm5n0 l Z a0 hw [] b1 n6 v7 b2_2 b4_2 b6_2 (0 : Int32) (0 : Int32) (0 : Int32) ([(-1 : Int32), (-1 : Int32), (-1 : Int32)]) ([(0 : UInt64), (0 : UInt64), (0 : UInt64)]) h2 n0 Z0 E_b1 F_b1_heap F_b1_position F_b1_key F_b1_size V_b2_2 V_b4_2 (by first | assumption | rfl | (simp only [List.length_set]; first | assumption | rfl)) V_b6_2 (by first | assumption | rfl | (simp only [List.length_set]; first | assumption | rfl)) own_nk0 D_v7.1.ne_nan rg_n6 (own_pv0 rg_n6) g_b1 (Ne.symm ne_b1_b2_2) (Ne.symm ne_b1_b4_2) (Ne.symm ne_b1_b6_2) g_b6_2 ne_b2_2_b6_2 ne_b4_2_b6_2 g_b2_2 (Ne.symm ne_b2_2_b4_2) g_b4_2) eH3 (by rw [hml]; rfl) (a := b1) E_b1 (argsL := [(.int n6), (.double v7)]) rfl (lenOf pd_4 rfl) rfl at_42 (pc' := 45) rfl (by decide) (W := 0) (Nat.le_of_eq rfl) (by decide) (by decide) (by decide) (fun T8 h8 Lc8 v8r X8 eH8 hQ8 => ?_)
  obtain ⟨rfl, Nq8, Kq8, gq8_0, gq8_1, gq8_2, gq8_3, gq8_4, gq8_5, gq8_6, gq8_7, gq8_8, gq8_9, gq8_10⟩ := hQ8
  have N8 := Fr.app N3 Nq8
  replace E_b1 := E_b1.keep Kq8
  replace E_b2_2 := E_b2_2.keep Kq8
  replace E_b4_2 := E_b4_2.keep Kq8
  replace E_b6_2 := E_b6_2.keep Kq8
  have E_b1 := gq8_0
  have F_b1_heap := gq8_1
  have F_b1_position := gq8_2
  have F_b1_key := gq8_3
  have F_b1_size := gq8_4
  have hl9 : ([(0 : UInt64), (0 : UInt64), (0 : UInt64)].set n6.toNatClampNeg v7).length = 3 := by (repeat' split) <;> (simp only [List.length_set]; first | assumption | rfl)
  generalize q_L10 : ([(0 : UInt64), (0 : UInt64), (0 : UInt64)].set n6.toNatClampNeg v7) = L10 at gq8_5 hl9
  have V_b6_2 := gq8_5
  have V_b2_2 := gq8_6
  have hl11 : ([(-1 : Int32), (-1 : Int32), (-1 : Int32)].set n6.toNatClampNeg (0 : Int32)).length = 3 := by (repeat' split) <;> (simp only [List.length_set]; first | assumption | rfl)
  generalize q_L12 : ([(-1 : Int32), (-1 : Int32), (-1 : Int32)].set n6.toNatClampNeg (0 : Int32)) = L12 at gq8_7 hl11
  have V_b4_2 := gq8_7
  have hp_8 : Hp1 n6 L12 L10 := by rw [← q_L10, ← q_L12]; exact gq8_8
  have nnk_8 : NNk L10 := by rw [← q_L10]; exact gq8_9
  have ab_8 : ∀ z : Int32, (0 ≤ z.toInt ∧ z.toInt < 3) → ¬ n6.toInt = z.toInt → pv [(-1 : Int32), (-1 : Int32), (-1 : Int32)] z = -1 → pv L12 z = -1 := by rw [← q_L12]; exact gq8_10
  replace Z0 := Nat.le_trans Z0 Kq8.1
  have kv6 : kv L10 n6 = zv v7 := by rw [← q_L10, own_kvs rfl rg_n6 rg_n6, if_pos rfl]
  refine own_aload X8 hx hby rfl rfl at_45 (pc' := 47) rfl ?_
  refine own_virtual X8 hx hby hZ (y := (⟨"com/example/cross_town/crosstown/solve/NodeHeap", "isEmpty", "()Z"⟩ : MethodName)) (y' := (⟨"com/example/cross_town/crosstown/solve/NodeHeap", "isEmpty", "()Z"⟩ : MethodName)) (C := "com/example/cross_town/crosstown/solve/NodeHeap") (rest := []) hown (hw _ (List.mem_of_getElem? (i := 21) rfl)) (hw _ (List.mem_of_getElem? (i := 22) rfl)) (notFace_of_selects (args := #[]) (mvT hZ (hw _ (List.mem_of_getElem? (i := 24) rfl)))) (hw _ (List.mem_of_getElem? (i := 24) rfl)) (hw _ (List.mem_of_getElem? (i := 23) rfl)) (hw _ (List.mem_of_getElem? (i := 25) rfl)) (hw _ (List.mem_of_getElem? (i := 2) rfl)) (by decide) (rm4 l Z a0 hw [] b1 (1 : Int32) h8 n0 Z0 F_b1_size) eH8 (by rw [hml]; rfl) (a := b1) E_b1 (argsL := []) rfl (lenOf pd_3 rfl) rfl at_47 (pc' := 50) rfl (by decide) (W := 0) (Nat.le_of_eq rfl) (by decide) (by decide) (by decide) (fun T13 h13 Lc13 v13r X13 eH13 hQ13 => ?_)
  obtain ⟨rfl, Nq13, rfl⟩ := hQ13
  have N13 := Fr.app N8 Nq13
  dsimp only [Option.toList, List.cons_append, List.nil_append]
  generalize q_r14 : (if (1 : Int32) = 0 then (1 : Int32) else (0 : Int32)) = r14
  have hk15 : r14 = 0 := by rw [← q_r14]; decide
  refine own_ifT X13 hx hby at_50 (own_i0_eq_p hk15) (by decide) (pc' := 55) (by decide) ?_
  refine own_iconst X13 hx hby (v := (1 : Int32)) (by decide) at_55 (pc' := 56) rfl ?_
  refine own_istore X13 hx hby (L' := #[.val (.int p0), .val (.int p1), .val (.int p2), .val (.int p3), .val (.int p4), .val (.ref b1), .val (.int n6), .val (.double v7), .second, .val (.int (1 : Int32)), .unset, .unset, .unset]) rfl at_56 (pc' := 58) rfl ?_
  refine own_iload X13 hx hby rfl at_58 (pc' := 60) rfl ?_
  refine own_iconst X13 hx hby (v := (1 : Int32)) (by decide) at_60 (pc' := 61) rfl ?_
  refine own_iand X13 hx hby rfl at_61 (pc' := 62) rfl ?_
  by_cases hc16 : (p4 &&& (1 : Int32)) = 0
  · refine own_ifT X13 hx hby at_62 (own_i0_eq_p hc16) (by decide) (pc' := 123) (by decide) ?_
    refine own_aload X13 hx hby rfl rfl at_123 (pc' := 125) rfl ?_
    refine own_virtual X13 hx hby hZ (y := (⟨"com/example/cross_town/crosstown/solve/NodeHeap", "poll", "()I"⟩ : MethodName)) (y' := (⟨"com/example/cross_town/crosstown/solve/NodeHeap", "poll", "()I"⟩ : MethodName)) (C := "com/example/cross_town/crosstown/solve/NodeHeap") (rest := []) hown (hw _ (List.mem_of_getElem? (i := 42) rfl)) (hw _ (List.mem_of_getElem? (i := 43) rfl)) (notFace_of_selects (args := #[]) (mvT hZ (hw _ (List.mem_of_getElem? (i := 45) rfl)))) (hw _ (List.mem_of_getElem? (i := 45) rfl)) (hw _ (List.mem_of_getElem? (i := 44) rfl)) (hw _ (List.mem_of_getElem? (i := 46) rfl)) (hw _ (List.mem_of_getElem? (i := 2) rfl)) (by decide) (rm81 l Z a0 hw [] b1 b2_2 b4_2 b6_2 n6 (0 : Int32) (0 : Int32) L12 L10 h8 n0 Z0 E_b1 F_b1_heap F_b1_position F_b1_key V_b2_2 V_b4_2 (by first | assumption | rfl | (simp only [List.length_set]; first | assumption | rfl)) V_b6_2 (by first | assumption | rfl | (simp only [List.length_set]; first | assumption | rfl)) F_b1_size nnk_8 hp_8 g_b4_2 ne_b1_b4_2 ne_b2_2_b4_2 (Ne.symm ne_b4_2_b6_2) g_b1 (Ne.symm ne_b1_b2_2) (Ne.symm ne_b1_b6_2)) eH13 (by rw [hml]; rfl) (a := b1) E_b1 (argsL := []) rfl (lenOf pd_5 rfl) rfl at_125 (pc' := 128) rfl (by decide) (W := 0) (Nat.le_of_eq rfl) (by decide) (by decide) (by decide) (fun T17 h17 Lc17 v17r X17 eH17 hQ17 => ?_)
    obtain ⟨rfl, Nq17, Kq17, gq17_0, gq17_1, gq17_2, gq17_3, gq17_4, gq17_5, gq17_6, gq17_7, gq17_8⟩ := hQ17
    have N17 := Fr.app N13 Nq17
    replace E_b1 := E_b1.keep Kq17
    replace E_b2_2 := E_b2_2.keep Kq17
    replace V_b2_2 := V_b2_2.keep Kq17 (ninS ne_b2_2_b4_2 (ninS (Ne.symm ne_b1_b2_2) nin0))
    replace E_b4_2 := E_b4_2.keep Kq17
    replace E_b6_2 := E_b6_2.keep Kq17
    replace V_b6_2 := V_b6_2.keep Kq17 (ninS (Ne.symm ne_b4_2_b6_2) (ninS (Ne.symm ne_b1_b6_2) nin0))
    have hl18 : (L12.set n6.toNatClampNeg (-1 : Int32)).length = 3 := by (repeat' split) <;> (simp only [List.length_set]; first | assumption | rfl)
    generalize q_L19 : (L12.set n6.toNatClampNeg (-1 : Int32)) = L19 at gq17_0 hl18
    have V_b4_2 := gq17_0
    have E_b1 := gq17_1
    have F_b1_heap := gq17_2
    have F_b1_position := gq17_3
    have F_b1_key := gq17_4
    have F_b1_size := gq17_5
    have ab_17 : ∀ z : Int32, (0 ≤ z.toInt ∧ z.toInt < 3) → pv L12 z = -1 → pv L19 z = -1 := by rw [← q_L19]; exact gq17_6
    have go_17 : pv L19 n6 = -1 := by rw [← q_L19]; exact gq17_7
    have rg_17 : 0 ≤ n6.toInt ∧ n6.toInt < 3 := gq17_8
    replace Z0 := Nat.le_trans Z0 Kq17.1
    refine own_pop X17 hx hby rfl at_128 (pc' := 129) rfl ?_
    refine own_aload X17 hx hby rfl rfl at_129 (pc' := 131) rfl ?_
    refine own_virtual X17 hx hby hZ (y := (⟨"com/example/cross_town/crosstown/solve/NodeHeap", "isEmpty", "()Z"⟩ : MethodName)) (y' := (⟨"com/example/cross_town/crosstown/solve/NodeHeap", "isEmpty", "()Z"⟩ : MethodName)) (C := "com/example/cross_town/crosstown/solve/NodeHeap") (rest := []) hown (hw _ (List.mem_of_getElem? (i := 21) rfl)) (hw _ (List.mem_of_getElem? (i := 22) rfl)) (notFace_of_selects (args := #[]) (mvT hZ (hw _ (List.mem_of_getElem? (i := 24) rfl)))) (hw _ (List.mem_of_getElem? (i := 24) rfl)) (hw _ (List.mem_of_getElem? (i := 23) rfl)) (hw _ (List.mem_of_getElem? (i := 25) rfl)) (hw _ (List.mem_of_getElem? (i := 2) rfl)) (by decide) (rm4 l Z a0 hw [] b1 (0 : Int32) h17 n0 Z0 F_b1_size) eH17 (by rw [hml]; rfl) (a := b1) E_b1 (argsL := []) rfl (lenOf pd_3 rfl) rfl at_131 (pc' := 134) rfl (by decide) (W := 0) (Nat.le_of_eq rfl) (by decide) (by decide) (by decide) (fun T20 h20 Lc20 v20r X20 eH20 hQ20 => ?_)
    obtain ⟨rfl, Nq20, rfl⟩ := hQ20
    have N20 := Fr.app N17 Nq20
    dsimp only [Option.toList, List.cons_append, List.nil_append]
    generalize q_r21 : (if (0 : Int32) = 0 then (1 : Int32) else (0 : Int32)) = r21
    refine own_iload X20 hx hby rfl at_134 (pc' := 136) rfl ?_
    refine own_iconst X20 hx hby (v := (1 : Int32)) (by decide) at_136 (pc' := 137) rfl ?_
    refine own_icF X20 hx hby at_137 (by decide) (pc' := 140) rfl ?_
    refine own_iconst X20 hx hby (v := (1 : Int32)) (by decide) at_140 (pc' := 141) rfl ?_
    refine own_goto X20 hx hby at_141 (by decide) (pc' := 145) (by decide) ?_
    have hk22 : r21 = (1 : Int32) := by rw [← q_r21]; decide
    refine own_icT X20 hx hby at_145 (own_ic_eq_p hk22) (by decide) (pc' := 150) (by decide) ?_
    refine own_iload X20 hx hby rfl at_150 (pc' := 152) rfl ?_
    refine own_iconst X20 hx hby (v := (2 : Int32)) (by decide) at_152 (pc' := 153) rfl ?_
    refine own_icT X20 hx hby at_153 (by decide) (by decide) (pc' := 172) (by decide) ?_
    refine own_iconst X20 hx hby (v := (1 : Int32)) (by decide) at_172 (pc' := 173) rfl ?_
    exact own_retZ X20 hx hby Bd.notSynchronized Bd.returns (Or.inr rfl) at_173 (by decide) (by decide) eH20 ⟨rfl, N20⟩
  · refine own_ifF X13 hx hby at_62 (own_i0_eq_n hc16) (pc' := 65) rfl ?_
    refine own_iloadN X13 hx hby rfl at_65 (pc' := 66) rfl ?_
    refine own_ldcI X13 hx hby hZ hown (hw _ (List.mem_of_getElem? (i := 28) rfl)) at_66 (pc' := 68) rfl ?_
    refine own_iand X13 hx hby rfl at_68 (pc' := 69) rfl ?_
    refine own_iconst X13 hx hby (v := (3 : Int32)) (by decide) at_69 (pc' := 70) rfl ?_
    refine own_irem X13 hx hby (by decide) rfl at_70 (pc' := 71) rfl ?_
    generalize q_n23 : ((p1 &&& (2147483647 : Int32)) % (3 : Int32)) = n23
    refine own_istore X13 hx hby (L' := #[.val (.int p0), .val (.int p1), .val (.int p2), .val (.int p3), .val (.int p4), .val (.ref b1), .val (.int n6), .val (.double v7), .second, .val (.int (1 : Int32)), .val (.int n23), .unset, .unset]) rfl at_71 (pc' := 73) rfl ?_
    have rg_n23 := own_idx p1 (3 : Int32) 3 (by decide) (by decide)
    rw [q_n23] at rg_n23
    refine own_iload X13 hx hby rfl at_73 (pc' := 75) rfl ?_
    refine own_iload X13 hx hby rfl at_75 (pc' := 77) rfl ?_
    by_cases hc24 : n23 = n6
    · have hs := hc24.symm
      subst hs
      refine own_icF X13 hx hby at_77 (own_ic_ne_p hc24) (pc' := 80) rfl ?_
      refine own_dload X13 hx hby rfl at_80 (pc' := 82) rfl ?_
      refine own_iloadN X13 hx hby rfl at_82 (pc' := 83) rfl ?_
      refine own_bipush X13 hx hby (v := (7 : Int32)) (by decide) at_83 (pc' := 85) rfl ?_
      refine own_iand X13 hx hby rfl at_85 (pc' := 86) rfl ?_
      obtain ⟨v25, q_v25⟩ : ∃ z : UInt64, (FP.i2d (p2 &&& (7 : Int32))) = z := ⟨_, rfl⟩
      have D_v25 : Dy v25 (p2 &&& (7 : Int32)).toInt 0 := q_v25 ▸ dy_i2d (p2 &&& (7 : Int32))
      have R_v25 := own_m7 p2
      refine own_i2d X13 hx hby q_v25 at_86 (pc' := 87) rfl ?_
      obtain ⟨v26, q_v26⟩ : ∃ z : UInt64, (FP.dsub v7 v25) = z := ⟨_, rfl⟩
      have D_v26 := D_v7.sub D_v25 (by omega) (by omega)
      rw [q_v26] at D_v26
      have nn_v26 := D_v26.nn
      have low : zv v26 ≤ zv v7 := (Dy.zle D_v26 D_v7).1.mpr (by omega)
      refine own_dsub X13 hx hby (by rw [q_v26]; exact nn_v26) q_v26 at_87 (pc' := 88) rfl ?_
      refine own_dstore X13 hx hby (L' := #[.val (.int p0), .val (.int p1), .val (.int p2), .val (.int p3), .val (.int p4), .val (.ref b1), .val (.int n6), .val (.double v7), .second, .val (.int (1 : Int32)), .val (.int n6), .val (.double v26), .second]) rfl at_88 (pc' := 90) rfl ?_
      refine own_goto X13 hx hby at_90 (by decide) (pc' := 104) (by decide) ?_
      refine own_aload X13 hx hby rfl rfl at_104 (pc' := 106) rfl ?_
      refine own_iload X13 hx hby rfl at_106 (pc' := 108) rfl ?_
      refine own_dload X13 hx hby rfl at_108 (pc' := 110) rfl ?_
      refine own_virtual X13 hx hby hZ (y := (⟨"com/example/cross_town/crosstown/solve/NodeHeap", "insertOrLower", "(ID)V"⟩ : MethodName)) (y' := (⟨"com/example/cross_town/crosstown/solve/NodeHeap", "insertOrLower", "(ID)V"⟩ : MethodName)) (C := "com/example/cross_town/crosstown/solve/NodeHeap") (rest := []) hown (hw _ (List.mem_of_getElem? (i := 29) rfl)) (hw _ (List.mem_of_getElem? (i := 30) rfl)) (notFace_of_selects (args := #[]) (mvT hZ (hw _ (List.mem_of_getElem? (i := 32) rfl)))) (hw _ (List.mem_of_getElem? (i := 32) rfl)) (hw _ (List.mem_of_getElem? (i := 31) rfl)) (hw _ (List.mem_of_getElem? (i := 33) rfl)) (hw _ (List.mem_of_getElem? (i := 2) rfl)) (by decide) (rm5l10 l Z a0 hw [] b1 n6 v26 b2_2 b4_2 b6_2 (0 : Int32) (0 : Int32) L12 L10 h8 n0 Z0 E_b1 F_b1_heap F_b1_position F_b1_key F_b1_size V_b2_2 V_b4_2 (by first | assumption | rfl | (simp only [List.length_set]; first | assumption | rfl)) V_b6_2 (by first | assumption | rfl | (simp only [List.length_set]; first | assumption | rfl)) nnk_8 D_v26.1.ne_nan hp_8 (by rw [kv6]; exact low) g_b6_2 ne_b1_b6_2 ne_b2_2_b6_2 ne_b4_2_b6_2 g_b2_2 ne_b1_b2_2 (Ne.symm ne_b2_2_b4_2) g_b4_2 ne_b1_b4_2) eH13 (by rw [hml]; rfl) (a := b1) E_b1 (argsL := [(.int n6), (.double v26)]) rfl (lenOf pd_4 rfl) rfl at_110 (pc' := 113) rfl (by decide) (W := 0) (Nat.le_of_eq rfl) (by decide) (by decide) (by decide) (fun T27 h27 Lc27 v27r X27 eH27 hQ27 => ?_)
      obtain ⟨rfl, Nq27, Kq27, gq27_0, gq27_1, gq27_2, gq27_3, gq27_4⟩ := hQ27
      have N27 := Fr.app N13 Nq27
      replace E_b1 := E_b1.keep Kq27
      replace F_b1_heap := F_b1_heap.keep Kq27 (ninS ne_b1_b6_2 (ninS ne_b1_b2_2 (ninS ne_b1_b4_2 nin0)))
      replace F_b1_position := F_b1_position.keep Kq27 (ninS ne_b1_b6_2 (ninS ne_b1_b2_2 (ninS ne_b1_b4_2 nin0)))
      replace F_b1_key := F_b1_key.keep Kq27 (ninS ne_b1_b6_2 (ninS ne_b1_b2_2 (ninS ne_b1_b4_2 nin0)))
      replace F_b1_size := F_b1_size.keep Kq27 (ninS ne_b1_b6_2 (ninS ne_b1_b2_2 (ninS ne_b1_b4_2 nin0)))
      replace E_b2_2 := E_b2_2.keep Kq27
      replace E_b4_2 := E_b4_2.keep Kq27
      replace E_b6_2 := E_b6_2.keep Kq27
      have hl28 : (L10.set n6.toNatClampNeg v26).length = 3 := by (repeat' split) <;> (simp only [List.length_set]; first | assumption | rfl)
      generalize q_L29 : (L10.set n6.toNatClampNeg v26) = L29 at gq27_0 hl28
      have V_b6_2 := gq27_0
      have V_b2_2 := gq27_1
      have hl30 : (L12.set n6.toNatClampNeg (0 : Int32)).length = 3 := by (repeat' split) <;> (simp only [List.length_set]; first | assumption | rfl)
      generalize q_L31 : (L12.set n6.toNatClampNeg (0 : Int32)) = L31 at gq27_2 hl30
      have V_b4_2 := gq27_2
      have hp_27 : Hp1 n6 L31 L29 := by rw [← q_L29, ← q_L31]; exact gq27_3
      have nnk_27 : NNk L29 := by rw [← q_L29]; exact gq27_4
      replace Z0 := Nat.le_trans Z0 Kq27.1
      refine own_aload X27 hx hby rfl rfl at_113 (pc' := 115) rfl ?_
      refine own_virtual X27 hx hby hZ (y := (⟨"com/example/cross_town/crosstown/solve/NodeHeap", "isEmpty", "()Z"⟩ : MethodName)) (y' := (⟨"com/example/cross_town/crosstown/solve/NodeHeap", "isEmpty", "()Z"⟩ : MethodName)) (C := "com/example/cross_town/crosstown/solve/NodeHeap") (rest := []) hown (hw _ (List.mem_of_getElem? (i := 21) rfl)) (hw _ (List.mem_of_getElem? (i := 22) rfl)) (notFace_of_selects (args := #[]) (mvT hZ (hw _ (List.mem_of_getElem? (i := 24) rfl)))) (hw _ (List.mem_of_getElem? (i := 24) rfl)) (hw _ (List.mem_of_getElem? (i := 23) rfl)) (hw _ (List.mem_of_getElem? (i := 25) rfl)) (hw _ (List.mem_of_getElem? (i := 2) rfl)) (by decide) (rm4 l Z a0 hw [] b1 (1 : Int32) h27 n0 Z0 F_b1_size) eH27 (by rw [hml]; rfl) (a := b1) E_b1 (argsL := []) rfl (lenOf pd_3 rfl) rfl at_115 (pc' := 118) rfl (by decide) (W := 0) (Nat.le_of_eq rfl) (by decide) (by decide) (by decide) (fun T32 h32 Lc32 v32r X32 eH32 hQ32 => ?_)
      obtain ⟨rfl, Nq32, rfl⟩ := hQ32
      have N32 := Fr.app N27 Nq32
      dsimp only [Option.toList, List.cons_append, List.nil_append]
      generalize q_r33 : (if (1 : Int32) = 0 then (1 : Int32) else (0 : Int32)) = r33
      have hk34 : r33 = 0 := by rw [← q_r33]; decide
      refine own_ifT X32 hx hby at_118 (own_i0_eq_p hk34) (by decide) (pc' := 123) (by decide) ?_
      refine own_aload X32 hx hby rfl rfl at_123 (pc' := 125) rfl ?_
      refine own_virtual X32 hx hby hZ (y := (⟨"com/example/cross_town/crosstown/solve/NodeHeap", "poll", "()I"⟩ : MethodName)) (y' := (⟨"com/example/cross_town/crosstown/solve/NodeHeap", "poll", "()I"⟩ : MethodName)) (C := "com/example/cross_town/crosstown/solve/NodeHeap") (rest := []) hown (hw _ (List.mem_of_getElem? (i := 42) rfl)) (hw _ (List.mem_of_getElem? (i := 43) rfl)) (notFace_of_selects (args := #[]) (mvT hZ (hw _ (List.mem_of_getElem? (i := 45) rfl)))) (hw _ (List.mem_of_getElem? (i := 45) rfl)) (hw _ (List.mem_of_getElem? (i := 44) rfl)) (hw _ (List.mem_of_getElem? (i := 46) rfl)) (hw _ (List.mem_of_getElem? (i := 2) rfl)) (by decide) (rm81 l Z a0 hw [] b1 b2_2 b4_2 b6_2 n6 (0 : Int32) (0 : Int32) L31 L29 h27 n0 Z0 E_b1 F_b1_heap F_b1_position F_b1_key V_b2_2 V_b4_2 (by first | assumption | rfl | (simp only [List.length_set]; first | assumption | rfl)) V_b6_2 (by first | assumption | rfl | (simp only [List.length_set]; first | assumption | rfl)) F_b1_size nnk_27 hp_27 g_b4_2 ne_b1_b4_2 ne_b2_2_b4_2 (Ne.symm ne_b4_2_b6_2) g_b1 (Ne.symm ne_b1_b2_2) (Ne.symm ne_b1_b6_2)) eH32 (by rw [hml]; rfl) (a := b1) E_b1 (argsL := []) rfl (lenOf pd_5 rfl) rfl at_125 (pc' := 128) rfl (by decide) (W := 0) (Nat.le_of_eq rfl) (by decide) (by decide) (by decide) (fun T35 h35 Lc35 v35r X35 eH35 hQ35 => ?_)
      obtain ⟨rfl, Nq35, Kq35, gq35_0, gq35_1, gq35_2, gq35_3, gq35_4, gq35_5, gq35_6, gq35_7, gq35_8⟩ := hQ35
      have N35 := Fr.app N32 Nq35
      replace E_b1 := E_b1.keep Kq35
      replace E_b2_2 := E_b2_2.keep Kq35
      replace V_b2_2 := V_b2_2.keep Kq35 (ninS ne_b2_2_b4_2 (ninS (Ne.symm ne_b1_b2_2) nin0))
      replace E_b4_2 := E_b4_2.keep Kq35
      replace E_b6_2 := E_b6_2.keep Kq35
      replace V_b6_2 := V_b6_2.keep Kq35 (ninS (Ne.symm ne_b4_2_b6_2) (ninS (Ne.symm ne_b1_b6_2) nin0))
      have hl36 : (L31.set n6.toNatClampNeg (-1 : Int32)).length = 3 := by (repeat' split) <;> (simp only [List.length_set]; first | assumption | rfl)
      generalize q_L37 : (L31.set n6.toNatClampNeg (-1 : Int32)) = L37 at gq35_0 hl36
      have V_b4_2 := gq35_0
      have E_b1 := gq35_1
      have F_b1_heap := gq35_2
      have F_b1_position := gq35_3
      have F_b1_key := gq35_4
      have F_b1_size := gq35_5
      have ab_35 : ∀ z : Int32, (0 ≤ z.toInt ∧ z.toInt < 3) → pv L31 z = -1 → pv L37 z = -1 := by rw [← q_L37]; exact gq35_6
      have go_35 : pv L37 n6 = -1 := by rw [← q_L37]; exact gq35_7
      have rg_35 : 0 ≤ n6.toInt ∧ n6.toInt < 3 := gq35_8
      replace Z0 := Nat.le_trans Z0 Kq35.1
      refine own_pop X35 hx hby rfl at_128 (pc' := 129) rfl ?_
      refine own_aload X35 hx hby rfl rfl at_129 (pc' := 131) rfl ?_
      refine own_virtual X35 hx hby hZ (y := (⟨"com/example/cross_town/crosstown/solve/NodeHeap", "isEmpty", "()Z"⟩ : MethodName)) (y' := (⟨"com/example/cross_town/crosstown/solve/NodeHeap", "isEmpty", "()Z"⟩ : MethodName)) (C := "com/example/cross_town/crosstown/solve/NodeHeap") (rest := []) hown (hw _ (List.mem_of_getElem? (i := 21) rfl)) (hw _ (List.mem_of_getElem? (i := 22) rfl)) (notFace_of_selects (args := #[]) (mvT hZ (hw _ (List.mem_of_getElem? (i := 24) rfl)))) (hw _ (List.mem_of_getElem? (i := 24) rfl)) (hw _ (List.mem_of_getElem? (i := 23) rfl)) (hw _ (List.mem_of_getElem? (i := 25) rfl)) (hw _ (List.mem_of_getElem? (i := 2) rfl)) (by decide) (rm4 l Z a0 hw [] b1 (0 : Int32) h35 n0 Z0 F_b1_size) eH35 (by rw [hml]; rfl) (a := b1) E_b1 (argsL := []) rfl (lenOf pd_3 rfl) rfl at_131 (pc' := 134) rfl (by decide) (W := 0) (Nat.le_of_eq rfl) (by decide) (by decide) (by decide) (fun T38 h38 Lc38 v38r X38 eH38 hQ38 => ?_)
      obtain ⟨rfl, Nq38, rfl⟩ := hQ38
      have N38 := Fr.app N35 Nq38
      dsimp only [Option.toList, List.cons_append, List.nil_append]
      generalize q_r39 : (if (0 : Int32) = 0 then (1 : Int32) else (0 : Int32)) = r39
      refine own_iload X38 hx hby rfl at_134 (pc' := 136) rfl ?_
      refine own_iconst X38 hx hby (v := (1 : Int32)) (by decide) at_136 (pc' := 137) rfl ?_
      refine own_icF X38 hx hby at_137 (by decide) (pc' := 140) rfl ?_
      refine own_iconst X38 hx hby (v := (1 : Int32)) (by decide) at_140 (pc' := 141) rfl ?_
      refine own_goto X38 hx hby at_141 (by decide) (pc' := 145) (by decide) ?_
      have hk40 : r39 = (1 : Int32) := by rw [← q_r39]; decide
      refine own_icT X38 hx hby at_145 (own_ic_eq_p hk40) (by decide) (pc' := 150) (by decide) ?_
      refine own_iload X38 hx hby rfl at_150 (pc' := 152) rfl ?_
      refine own_iconst X38 hx hby (v := (2 : Int32)) (by decide) at_152 (pc' := 153) rfl ?_
      refine own_icT X38 hx hby at_153 (by decide) (by decide) (pc' := 172) (by decide) ?_
      refine own_iconst X38 hx hby (v := (1 : Int32)) (by decide) at_172 (pc' := 173) rfl ?_
      exact own_retZ X38 hx hby Bd.notSynchronized Bd.returns (Or.inr rfl) at_173 (by decide) (by decide) eH38 ⟨rfl, N38⟩
    · refine own_icT X13 hx hby at_77 (own_ic_ne_n hc24) (by decide) (pc' := 93) (by decide) ?_
      refine own_iloadN X13 hx hby rfl at_93 (pc' := 94) rfl ?_
      refine own_sipush X13 hx hby (v := (255 : Int32)) (by decide) at_94 (pc' := 97) rfl ?_
      refine own_iand X13 hx hby rfl at_97 (pc' := 98) rfl ?_
      obtain ⟨v41, q_v41⟩ : ∃ z : UInt64, (FP.i2d (p2 &&& (255 : Int32))) = z := ⟨_, rfl⟩
      have D_v41 : Dy v41 (p2 &&& (255 : Int32)).toInt 0 := q_v41 ▸ dy_i2d (p2 &&& (255 : Int32))
      have R_v41 := own_m255 p2
      refine own_i2d X13 hx hby q_v41 at_98 (pc' := 99) rfl ?_
      refine own_dstore X13 hx hby (L' := #[.val (.int p0), .val (.int p1), .val (.int p2), .val (.int p3), .val (.int p4), .val (.ref b1), .val (.int n6), .val (.double v7), .second, .val (.int (1 : Int32)), .val (.int n23), .val (.double v41), .second]) rfl at_99 (pc' := 101) rfl ?_
      refine own_iconst X13 hx hby (v := (2 : Int32)) (by decide) at_101 (pc' := 102) rfl ?_
      refine own_istore X13 hx hby (L' := #[.val (.int p0), .val (.int p1), .val (.int p2), .val (.int p3), .val (.int p4), .val (.ref b1), .val (.int n6), .val (.double v7), .second, .val (.int (2 : Int32)), .val (.int n23), .val (.double v41), .second]) rfl at_102 (pc' := 104) rfl ?_
      refine own_aload X13 hx hby rfl rfl at_104 (pc' := 106) rfl ?_
      refine own_iload X13 hx hby rfl at_106 (pc' := 108) rfl ?_
      refine own_dload X13 hx hby rfl at_108 (pc' := 110) rfl ?_
      refine own_virtual X13 hx hby hZ (y := (⟨"com/example/cross_town/crosstown/solve/NodeHeap", "insertOrLower", "(ID)V"⟩ : MethodName)) (y' := (⟨"com/example/cross_town/crosstown/solve/NodeHeap", "insertOrLower", "(ID)V"⟩ : MethodName)) (C := "com/example/cross_town/crosstown/solve/NodeHeap") (rest := []) hown (hw _ (List.mem_of_getElem? (i := 29) rfl)) (hw _ (List.mem_of_getElem? (i := 30) rfl)) (notFace_of_selects (args := #[]) (mvT hZ (hw _ (List.mem_of_getElem? (i := 32) rfl)))) (hw _ (List.mem_of_getElem? (i := 32) rfl)) (hw _ (List.mem_of_getElem? (i := 31) rfl)) (hw _ (List.mem_of_getElem? (i := 33) rfl)) (hw _ (List.mem_of_getElem? (i := 2) rfl)) (by decide) (rm5n1 l Z a0 hw [] b1 n23 v41 b2_2 b4_2 b6_2 n6 (0 : Int32) (0 : Int32) L12 L10 h8 n0 Z0 E_b1 F_b1_heap F_b1_position F_b1_key F_b1_size V_b2_2 V_b4_2 (by first | assumption | rfl | (simp only [List.length_set]; first | assumption | rfl)) V_b6_2 (by first | assumption | rfl | (simp only [List.length_set]; first | assumption | rfl)) nnk_8 D_v41.1.ne_nan rg_n23 (ab_8 n23 rg_n23 (fun q => hc24 (Int32.toInt_inj.mp q.symm)) (own_pv0 rg_n23)) hp_8 g_b1 (Ne.symm ne_b1_b2_2) (Ne.symm ne_b1_b4_2) (Ne.symm ne_b1_b6_2) g_b6_2 ne_b2_2_b6_2 ne_b4_2_b6_2 g_b2_2 (Ne.symm ne_b2_2_b4_2) g_b4_2) eH13 (by rw [hml]; rfl) (a := b1) E_b1 (argsL := [(.int n23), (.double v41)]) rfl (lenOf pd_4 rfl) rfl at_110 (pc' := 113) rfl (by decide) (W := 0) (Nat.le_of_eq rfl) (by decide) (by decide) (by decide) (fun T42 h42 Lc42 v42r X42 eH42 hQ42 => ?_)
      obtain ⟨rfl, Nq42, Kq42, gq42_0, gq42_1, gq42_2, gq42_3, gq42_4, gq42_5, gq42_6, gq42_7, gq42_8, gq42_9, gq42_10⟩ := hQ42
      have N42 := Fr.app N13 Nq42
      replace E_b1 := E_b1.keep Kq42
      replace E_b2_2 := E_b2_2.keep Kq42
      replace E_b4_2 := E_b4_2.keep Kq42
      replace E_b6_2 := E_b6_2.keep Kq42
      have E_b1 := gq42_0
      have F_b1_heap := gq42_1
      have F_b1_position := gq42_2
      have F_b1_key := gq42_3
      have F_b1_size := gq42_4
      have hl43 : (L10.set n23.toNatClampNeg v41).length = 3 := by (repeat' split) <;> (simp only [List.length_set]; first | assumption | rfl)
      generalize q_L44 : (L10.set n23.toNatClampNeg v41) = L44 at gq42_5 hl43
      have V_b6_2 := gq42_5
      obtain ⟨n45, q_n45⟩ : ∃ z : Int32, (if dle ((L10.set n23.toNatClampNeg v41).getD n6.toNatClampNeg 0) ((L10.set n23.toNatClampNeg v41).getD n23.toNatClampNeg 0) then n6 else n23) = z := ⟨_, rfl⟩
      obtain ⟨n46, q_n46⟩ : ∃ z : Int32, (if dle ((L10.set n23.toNatClampNeg v41).getD n6.toNatClampNeg 0) ((L10.set n23.toNatClampNeg v41).getD n23.toNatClampNeg 0) then n23 else n6) = z := ⟨_, rfl⟩
      have V_b2_2 : Ary tr Z h42 b2_2 .int [(.int n45), (.int n46), (.int (0 : Int32))] := by rw [← q_n45, ← q_n46]; exact gq42_6
      have hl47 : (if dle ((L10.set n23.toNatClampNeg v41).getD n6.toNatClampNeg 0) ((L10.set n23.toNatClampNeg v41).getD n23.toNatClampNeg 0) then (L12.set n23.toNatClampNeg (1 : Int32)) else ((L12.set n6.toNatClampNeg (1 : Int32)).set n23.toNatClampNeg (0 : Int32))).length = 3 := by (repeat' split) <;> (simp only [List.length_set]; first | assumption | rfl)
      generalize q_L48 : (if dle ((L10.set n23.toNatClampNeg v41).getD n6.toNatClampNeg 0) ((L10.set n23.toNatClampNeg v41).getD n23.toNatClampNeg 0) then (L12.set n23.toNatClampNeg (1 : Int32)) else ((L12.set n6.toNatClampNeg (1 : Int32)).set n23.toNatClampNeg (0 : Int32))) = L48 at gq42_7 hl47
      have V_b4_2 := gq42_7
      have hp_42 : Hp2 n45 n46 L48 L44 := by rw [← q_L44, ← q_n46, ← q_n45, ← q_L48]; exact gq42_8
      have nnk_42 : NNk L44 := by rw [← q_L44]; exact gq42_9
      have ab_42 : ∀ z : Int32, (0 ≤ z.toInt ∧ z.toInt < 3) → ¬ n23.toInt = z.toInt → pv L12 z = -1 → pv L48 z = -1 := by rw [← q_L48]; exact gq42_10
      replace Z0 := Nat.le_trans Z0 Kq42.1
      refine own_aload X42 hx hby rfl rfl at_113 (pc' := 115) rfl ?_
      refine own_virtual X42 hx hby hZ (y := (⟨"com/example/cross_town/crosstown/solve/NodeHeap", "isEmpty", "()Z"⟩ : MethodName)) (y' := (⟨"com/example/cross_town/crosstown/solve/NodeHeap", "isEmpty", "()Z"⟩ : MethodName)) (C := "com/example/cross_town/crosstown/solve/NodeHeap") (rest := []) hown (hw _ (List.mem_of_getElem? (i := 21) rfl)) (hw _ (List.mem_of_getElem? (i := 22) rfl)) (notFace_of_selects (args := #[]) (mvT hZ (hw _ (List.mem_of_getElem? (i := 24) rfl)))) (hw _ (List.mem_of_getElem? (i := 24) rfl)) (hw _ (List.mem_of_getElem? (i := 23) rfl)) (hw _ (List.mem_of_getElem? (i := 25) rfl)) (hw _ (List.mem_of_getElem? (i := 2) rfl)) (by decide) (rm4 l Z a0 hw [] b1 (2 : Int32) h42 n0 Z0 F_b1_size) eH42 (by rw [hml]; rfl) (a := b1) E_b1 (argsL := []) rfl (lenOf pd_3 rfl) rfl at_115 (pc' := 118) rfl (by decide) (W := 0) (Nat.le_of_eq rfl) (by decide) (by decide) (by decide) (fun T49 h49 Lc49 v49r X49 eH49 hQ49 => ?_)
      obtain ⟨rfl, Nq49, rfl⟩ := hQ49
      have N49 := Fr.app N42 Nq49
      dsimp only [Option.toList, List.cons_append, List.nil_append]
      generalize q_r50 : (if (2 : Int32) = 0 then (1 : Int32) else (0 : Int32)) = r50
      have hk51 : r50 = 0 := by rw [← q_r50]; decide
      refine own_ifT X49 hx hby at_118 (own_i0_eq_p hk51) (by decide) (pc' := 123) (by decide) ?_
      refine own_aload X49 hx hby rfl rfl at_123 (pc' := 125) rfl ?_
      refine own_virtual X49 hx hby hZ (y := (⟨"com/example/cross_town/crosstown/solve/NodeHeap", "poll", "()I"⟩ : MethodName)) (y' := (⟨"com/example/cross_town/crosstown/solve/NodeHeap", "poll", "()I"⟩ : MethodName)) (C := "com/example/cross_town/crosstown/solve/NodeHeap") (rest := []) hown (hw _ (List.mem_of_getElem? (i := 42) rfl)) (hw _ (List.mem_of_getElem? (i := 43) rfl)) (notFace_of_selects (args := #[]) (mvT hZ (hw _ (List.mem_of_getElem? (i := 45) rfl)))) (hw _ (List.mem_of_getElem? (i := 45) rfl)) (hw _ (List.mem_of_getElem? (i := 44) rfl)) (hw _ (List.mem_of_getElem? (i := 46) rfl)) (hw _ (List.mem_of_getElem? (i := 2) rfl)) (by decide) (rm82 l Z a0 hw [] b1 b2_2 b4_2 b6_2 n45 n46 (0 : Int32) L48 L44 h42 n0 Z0 E_b1 F_b1_heap F_b1_position F_b1_key V_b2_2 V_b4_2 (by first | assumption | rfl | (simp only [List.length_set]; first | assumption | rfl)) V_b6_2 (by first | assumption | rfl | (simp only [List.length_set]; first | assumption | rfl)) F_b1_size nnk_42 hp_42 g_b4_2 ne_b1_b4_2 ne_b2_2_b4_2 (Ne.symm ne_b4_2_b6_2) g_b1 (Ne.symm ne_b1_b2_2) (Ne.symm ne_b1_b6_2) g_b2_2 (Ne.symm ne_b2_2_b6_2)) eH49 (by rw [hml]; rfl) (a := b1) E_b1 (argsL := []) rfl (lenOf pd_5 rfl) rfl at_125 (pc' := 128) rfl (by decide) (W := 0) (Nat.le_of_eq rfl) (by decide) (by decide) (by decide) (fun T52 h52 Lc52 v52r X52 eH52 hQ52 => ?_)
      obtain ⟨rfl, Nq52, Kq52, gq52_0, gq52_1, gq52_2, gq52_3, gq52_4, gq52_5, gq52_6, gq52_7, gq52_8, gq52_9, gq52_10, gq52_11⟩ := hQ52
      have N52 := Fr.app N49 Nq52
      replace E_b1 := E_b1.keep Kq52
      replace E_b2_2 := E_b2_2.keep Kq52
      replace E_b4_2 := E_b4_2.keep Kq52
      replace E_b6_2 := E_b6_2.keep Kq52
      replace V_b6_2 := V_b6_2.keep Kq52 (ninS (Ne.symm ne_b4_2_b6_2) (ninS (Ne.symm ne_b1_b6_2) (ninS (Ne.symm ne_b2_2_b6_2) nin0)))
      have hl53 : ((L48.set n45.toNatClampNeg (-1 : Int32)).set n46.toNatClampNeg (0 : Int32)).length = 3 := by (repeat' split) <;> (simp only [List.length_set]; first | assumption | rfl)
      generalize q_L54 : ((L48.set n45.toNatClampNeg (-1 : Int32)).set n46.toNatClampNeg (0 : Int32)) = L54 at gq52_0 hl53
      have V_b4_2 := gq52_0
      have E_b1 := gq52_1
      have F_b1_heap := gq52_2
      have F_b1_position := gq52_3
      have F_b1_key := gq52_4
      have F_b1_size := gq52_5
      have V_b2_2 := gq52_6
      have hp_52 : Hp1 n46 L54 L44 := by rw [← q_L54]; exact gq52_7
      have ab_52 : ∀ z : Int32, (0 ≤ z.toInt ∧ z.toInt < 3) → pv L48 z = -1 → pv L54 z = -1 := by rw [← q_L54]; exact gq52_8
      have go_52 : pv L54 n45 = -1 := by rw [← q_L54]; exact gq52_9
      have rg_52 : 0 ≤ n45.toInt ∧ n45.toInt < 3 := gq52_10
      have mn_52 : kv L44 n45 ≤ kv L44 n46 := gq52_11
      replace Z0 := Nat.le_trans Z0 Kq52.1
      refine own_pop X52 hx hby rfl at_128 (pc' := 129) rfl ?_
      refine own_aload X52 hx hby rfl rfl at_129 (pc' := 131) rfl ?_
      refine own_virtual X52 hx hby hZ (y := (⟨"com/example/cross_town/crosstown/solve/NodeHeap", "isEmpty", "()Z"⟩ : MethodName)) (y' := (⟨"com/example/cross_town/crosstown/solve/NodeHeap", "isEmpty", "()Z"⟩ : MethodName)) (C := "com/example/cross_town/crosstown/solve/NodeHeap") (rest := []) hown (hw _ (List.mem_of_getElem? (i := 21) rfl)) (hw _ (List.mem_of_getElem? (i := 22) rfl)) (notFace_of_selects (args := #[]) (mvT hZ (hw _ (List.mem_of_getElem? (i := 24) rfl)))) (hw _ (List.mem_of_getElem? (i := 24) rfl)) (hw _ (List.mem_of_getElem? (i := 23) rfl)) (hw _ (List.mem_of_getElem? (i := 25) rfl)) (hw _ (List.mem_of_getElem? (i := 2) rfl)) (by decide) (rm4 l Z a0 hw [] b1 (1 : Int32) h52 n0 Z0 F_b1_size) eH52 (by rw [hml]; rfl) (a := b1) E_b1 (argsL := []) rfl (lenOf pd_3 rfl) rfl at_131 (pc' := 134) rfl (by decide) (W := 0) (Nat.le_of_eq rfl) (by decide) (by decide) (by decide) (fun T55 h55 Lc55 v55r X55 eH55 hQ55 => ?_)
      obtain ⟨rfl, Nq55, rfl⟩ := hQ55
      have N55 := Fr.app N52 Nq55
      dsimp only [Option.toList, List.cons_append, List.nil_append]
      generalize q_r56 : (if (1 : Int32) = 0 then (1 : Int32) else (0 : Int32)) = r56
      refine own_iload X55 hx hby rfl at_134 (pc' := 136) rfl ?_
      refine own_iconst X55 hx hby (v := (1 : Int32)) (by decide) at_136 (pc' := 137) rfl ?_
      refine own_icT X55 hx hby at_137 (by decide) (by decide) (pc' := 144) (by decide) ?_
      refine own_iconst X55 hx hby (v := (0 : Int32)) (by decide) at_144 (pc' := 145) rfl ?_
      have hk57 : r56 = (0 : Int32) := by rw [← q_r56]; decide
      refine own_icT X55 hx hby at_145 (own_ic_eq_p hk57) (by decide) (pc' := 150) (by decide) ?_
      refine own_iload X55 hx hby rfl at_150 (pc' := 152) rfl ?_
      refine own_iconst X55 hx hby (v := (2 : Int32)) (by decide) at_152 (pc' := 153) rfl ?_
      refine own_icF X55 hx hby at_153 (by decide) (pc' := 156) rfl ?_
      refine own_aload X55 hx hby rfl rfl at_156 (pc' := 158) rfl ?_
      refine own_virtual X55 hx hby hZ (y := (⟨"com/example/cross_town/crosstown/solve/NodeHeap", "poll", "()I"⟩ : MethodName)) (y' := (⟨"com/example/cross_town/crosstown/solve/NodeHeap", "poll", "()I"⟩ : MethodName)) (C := "com/example/cross_town/crosstown/solve/NodeHeap") (rest := []) hown (hw _ (List.mem_of_getElem? (i := 42) rfl)) (hw _ (List.mem_of_getElem? (i := 43) rfl)) (notFace_of_selects (args := #[]) (mvT hZ (hw _ (List.mem_of_getElem? (i := 45) rfl)))) (hw _ (List.mem_of_getElem? (i := 45) rfl)) (hw _ (List.mem_of_getElem? (i := 44) rfl)) (hw _ (List.mem_of_getElem? (i := 46) rfl)) (hw _ (List.mem_of_getElem? (i := 2) rfl)) (by decide) (rm81 l Z a0 hw [] b1 b2_2 b4_2 b6_2 n46 n46 (0 : Int32) L54 L44 h52 n0 Z0 E_b1 F_b1_heap F_b1_position F_b1_key V_b2_2 V_b4_2 (by first | assumption | rfl | (simp only [List.length_set]; first | assumption | rfl)) V_b6_2 (by first | assumption | rfl | (simp only [List.length_set]; first | assumption | rfl)) F_b1_size nnk_42 hp_52 g_b4_2 ne_b1_b4_2 ne_b2_2_b4_2 (Ne.symm ne_b4_2_b6_2) g_b1 (Ne.symm ne_b1_b2_2) (Ne.symm ne_b1_b6_2)) eH55 (by rw [hml]; rfl) (a := b1) E_b1 (argsL := []) rfl (lenOf pd_5 rfl) rfl at_158 (pc' := 161) rfl (by decide) (W := 0) (Nat.le_of_eq rfl) (by decide) (by decide) (by decide) (fun T58 h58 Lc58 v58r X58 eH58 hQ58 => ?_)
      obtain ⟨rfl, Nq58, Kq58, gq58_0, gq58_1, gq58_2, gq58_3, gq58_4, gq58_5, gq58_6, gq58_7, gq58_8⟩ := hQ58
      have N58 := Fr.app N55 Nq58
      replace E_b1 := E_b1.keep Kq58
      replace E_b2_2 := E_b2_2.keep Kq58
      replace V_b2_2 := V_b2_2.keep Kq58 (ninS ne_b2_2_b4_2 (ninS (Ne.symm ne_b1_b2_2) nin0))
      replace E_b4_2 := E_b4_2.keep Kq58
      replace E_b6_2 := E_b6_2.keep Kq58
      replace V_b6_2 := V_b6_2.keep Kq58 (ninS (Ne.symm ne_b4_2_b6_2) (ninS (Ne.symm ne_b1_b6_2) nin0))
      have hl59 : (L54.set n46.toNatClampNeg (-1 : Int32)).length = 3 := by (repeat' split) <;> (simp only [List.length_set]; first | assumption | rfl)
      generalize q_L60 : (L54.set n46.toNatClampNeg (-1 : Int32)) = L60 at gq58_0 hl59
      have V_b4_2 := gq58_0
      have E_b1 := gq58_1
      have F_b1_heap := gq58_2
      have F_b1_position := gq58_3
      have F_b1_key := gq58_4
      have F_b1_size := gq58_5
      have ab_58 : ∀ z : Int32, (0 ≤ z.toInt ∧ z.toInt < 3) → pv L54 z = -1 → pv L60 z = -1 := by rw [← q_L60]; exact gq58_6
      have go_58 : pv L60 n46 = -1 := by rw [← q_L60]; exact gq58_7
      have rg_58 : 0 ≤ n46.toInt ∧ n46.toInt < 3 := gq58_8
      replace Z0 := Nat.le_trans Z0 Kq58.1
      refine own_pop X58 hx hby rfl at_161 (pc' := 162) rfl ?_
      refine own_aload X58 hx hby rfl rfl at_162 (pc' := 164) rfl ?_
      refine own_virtual X58 hx hby hZ (y := (⟨"com/example/cross_town/crosstown/solve/NodeHeap", "isEmpty", "()Z"⟩ : MethodName)) (y' := (⟨"com/example/cross_town/crosstown/solve/NodeHeap", "isEmpty", "()Z"⟩ : MethodName)) (C := "com/example/cross_town/crosstown/solve/NodeHeap") (rest := []) hown (hw _ (List.mem_of_getElem? (i := 21) rfl)) (hw _ (List.mem_of_getElem? (i := 22) rfl)) (notFace_of_selects (args := #[]) (mvT hZ (hw _ (List.mem_of_getElem? (i := 24) rfl)))) (hw _ (List.mem_of_getElem? (i := 24) rfl)) (hw _ (List.mem_of_getElem? (i := 23) rfl)) (hw _ (List.mem_of_getElem? (i := 25) rfl)) (hw _ (List.mem_of_getElem? (i := 2) rfl)) (by decide) (rm4 l Z a0 hw [] b1 (0 : Int32) h58 n0 Z0 F_b1_size) eH58 (by rw [hml]; rfl) (a := b1) E_b1 (argsL := []) rfl (lenOf pd_3 rfl) rfl at_164 (pc' := 167) rfl (by decide) (W := 0) (Nat.le_of_eq rfl) (by decide) (by decide) (by decide) (fun T61 h61 Lc61 v61r X61 eH61 hQ61 => ?_)
      obtain ⟨rfl, Nq61, rfl⟩ := hQ61
      have N61 := Fr.app N58 Nq61
      dsimp only [Option.toList, List.cons_append, List.nil_append]
      generalize q_r62 : (if (0 : Int32) = 0 then (1 : Int32) else (0 : Int32)) = r62
      have hk63 : ¬ (r62 = 0) := by rw [← q_r62]; decide
      refine own_ifT X61 hx hby at_167 (own_i0_ne_n hk63) (by decide) (pc' := 172) (by decide) ?_
      refine own_iconst X61 hx hby (v := (1 : Int32)) (by decide) at_172 (pc' := 173) rfl ?_
      exact own_retZ X61 hx hby Bd.notSynchronized Bd.returns (Or.inr rfl) at_173 (by decide) (by decide) eH61 ⟨rfl, N61⟩
set_option maxRecDepth 65536 in
set_option maxHeartbeats 40000000 in
theorem comes_1 {Post : Tables → Env → Array Value → State → Outcome → State → Prop} (hpost : ∀ tb e args s v u, (limb_1_1.after args s (.returned v) u = true ∧ limb_1_2.after args s (.returned v) u = true ∧ True) → FrameEnd s (.returned v) u (Jvm.fieldLocs frame_1_writes args s ++ Jvm.arrayLocs frame_1_arrays args s ++ Jvm.staticLocs frame_1_statics s) 16 128 → Post tb e args s (.returned v) u) :
    ArmFor flags0 classFile x code maxLocals ret World_1 tables_1 room_1 Calls_1 rest_1 Pre_1 Post := by
  intro l hfl _ _ p e ha hc hk s m args below hf hA hF happ hP
  obtain ⟨hcalls, hrest, hpre⟩ := hP
  obtain ⟨-, -, -, hnamed, -, -, -, hat⟩ := (Spec.applies_iff hf).mp happ
  obtain ⟨hg, hn⟩ := and_e (Cond.before_iff.mp (show (Jvm.Cond.and given_1 narrow_1).before args s = true from hpre))
  obtain ⟨gg1, gg2⟩ := and_e hg
  obtain ⟨gg3, gg4⟩ := and_e gg2
  obtain ⟨gg5, gg6⟩ := and_e gg4
  obtain ⟨gg7, gg8⟩ := and_e gg6
  obtain ⟨gg9, gg10⟩ := and_e gg8
  obtain ⟨w0, w1, w2, w3, w4, rfl⟩ : ∃ w0 w1 w2 w3 w4 : Value, args = #[w0, w1, w2, w3, w4] := by
    have hs : args.size = 5 := by simpa [Cond.value, given_1] using gg1
    obtain ⟨L⟩ := args
    match L, hs with
    | [w0, w1, w2, w3, w4], _ => exact ⟨w0, w1, w2, w3, w4, rfl⟩
  have hw := fun d (hd : d ∈ tables_1) => atoms_spec (ws := Jvm.Cond.code x code maxLocals ret :: tables_1) hat d (List.mem_cons_of_mem _ hd)
  have hfit : Fit s := fun {y c} hc i hi => by
    obtain ⟨ha, rfl⟩ := Array.getElem?_eq_some_iff.mp hc
    have q := List.all_eq_true.mp ((Array.all_eq_true_iff_forall_mem.mp hF) _ (Array.getElem_mem ha)) i (List.mem_range.mpr hi)
    simpa [Array.getElem?_eq_getElem hi] using q
  obtain ⟨i0, ei0⟩ := is_v gg3
  obtain rfl : w0 = (.int i0) := Option.some.inj ei0
  obtain ⟨i1, ei1⟩ := is_v gg5
  obtain rfl : w1 = (.int i1) := Option.some.inj ei1
  obtain ⟨i2, ei2⟩ := is_v gg7
  obtain rfl : w2 = (.int i2) := Option.some.inj ei2
  obtain ⟨i3, ei3⟩ := is_v gg9
  obtain rfl : w3 = (.int i3) := Option.some.inj ei3
  obtain ⟨i4, ei4⟩ := is_v gg10
  obtain rfl : w4 = (.int i4) := Option.some.inj ei4
  obtain ⟨n, o, h1, h2, h3, _, L, rfl, ⟨rfl, N⟩, hq⟩ := rm0 l s _ hw tables_1 i0 i1 i2 i3 i4 s.heap s.heap.size (Nat.le_refl _) p e ha hc hk s m _ below hf ((Spec.applies_iff_loose hf).mp happ).1 ⟨rfl, State.Warmed39.refl s, rfl⟩ trivial
  refine ⟨n, _, h1, h2, h3, hpost _ _ _ _ _ _ ⟨Cond.after_iff.mpr rfl, Cond.after_iff.mpr (eq_i res_at (Term.int_eval (1)) rfl), trivial⟩ ⟨hq.1, hq.2.1, (hq.2.2.sift fun y hy => Or.inr (N y hy)).mono (by decide) (by decide)⟩⟩
theorem main_1_1 : Claimed_1_1 := comes_1 fun _ _ _ _ _ _ h hF => ⟨h.1, hF⟩
theorem main_1_2 : Claimed_1_2 := comes_1 fun _ _ _ _ _ _ h hF => ⟨h.2.1, hF⟩
end Jvm.Pilot.@@N@@
namespace Jvm.Pilot.@@N@@
open Jvm Jvm.ClassFile Sem Op Lib Jvm.Free Jvm.Stand Jvm.Pilot.@@N@@.Jvm.D
/-! MADE BY PROGRAM (witnessworld.py) out of the Statement's table words and the real class files: 12 classes; the members and pool entries that the words name. The judged class is class 1, her method 1. -/
namespace start1
open Jvm.ClassFile
def u (s : String) : CpInfo := .utf8 (stringToUtf16 s)
/-- a pool by its gaps: so many unusable entries, then the entry; so many at the end -/
def gap : Nat → List CpInfo → List CpInfo
  | 0, r => r
  | n + 1, r => .unusable :: gap n r
def poolList (es : List (Nat × CpInfo)) (last : Nat) : List CpInfo := es.foldr (fun e r => gap e.1 (e.2 :: r)) (gap last [])
def pool (es : List (Nat × CpInfo)) (last : Nat) : Array CpInfo := ⟨poolList es last⟩
def fileOf (pool : Array CpInfo) (this : Nat) (attrs : Array Attribute := #[]) (ms : Array MethodInfo := #[]) (fl : Nat := 33) (sup : Nat := 0) (ifs : Array Nat := #[]) (fds : Array FieldInfo := #[]) : ClassFile where
  minorVersion := 0
  majorVersion := 65
  constantPool := pool
  accessFlags := fl
  thisClass := this
  superClass := sup
  interfaces := ifs
  fields := fds
  methods := ms
  attributes := attrs
def plain (name : String) (sup : Option ClassId) : Class where
  name := name
  kind := .ordinary
  loader := none
  accessFlags := 33
  super := sup
  interfaces := #[]
  cf := none
  fields := #[]
  methods := #[]
  instanceTypes := #[]
  staticTypes := #[]
  resolved := #[]
  callSites := []
  init := .initialized
  statics := none
  mirror := none

def pool0 : Array CpInfo := pool [(5, u "<init>"), (0, u "()V"), (1, .class_ 10), (1, u "java/lang/Object")] 113

def k0c0 : Code := { maxStack := 0, maxLocals := 1, code := object_method_1_code, exceptionTable := #[], attributes := #[] }
def k0m0 : Method := { name := "<init>", desc := "()V", sig := { parameters := [], returnType := none }, accessFlags := 1, code := some k0c0 }
/-- java/lang/Object -/
def k0 : Class := { plain "java/lang/Object" none with
  accessFlags := 33
  interfaces := #[]
  cf := some (fileOf pool0 8 #[] #[{ accessFlags := 1, nameIndex := 5, descriptorIndex := 6, attributes := #[] }] 33 0 #[] #[])
  fields := #[]
  methods := #[k0m0]
  instanceTypes := #[]
  staticTypes := #[]
  resolved := Array.replicate 124 none
  statics := none }

def pool1 : Array CpInfo := pool [(2, .class_ 4), (1, u "java/lang/Object"), (0, u "<init>"), (0, u "()V"), (0, .class_ 8), (0, u "com/example/cross_town/crosstown/solve/NodeHeap"), (0, .methodref 7 10), (0, .nameAndType 5 11), (0, u "(I)V"), (0, .methodref 7 13), (0, .nameAndType 14 15), (0, u "isEmpty"), (0, u "()Z"), (0, .integer 2147483647), (0, .methodref 7 18), (0, .nameAndType 19 20), (0, u "insertOrLower"), (0, u "(ID)V"), (0, .methodref 7 22), (0, .nameAndType 23 24), (0, u "poll"), (0, u "()I"), (0, .class_ 26), (0, u "com/example/cross_town/crosstown/solve/NodeHeapIsEmptyPinLaw"), (2, u "law"), (0, u "(IIIII)Z")] 3

def k1m0 : Method := { name := "<init>", desc := "()V", sig := { parameters := [], returnType := none }, accessFlags := 1, code := none }
def k1c1 : Code := { maxStack := 4, maxLocals := 13, code := code, exceptionTable := #[], attributes := #[] }
def k1m1 : Method := { name := "law", desc := "(IIIII)Z", sig := { parameters := [.int, .int, .int, .int, .int], returnType := some .boolean }, accessFlags := 9, code := some k1c1 }
/-- com/example/cross_town/crosstown/solve/NodeHeapIsEmptyPinLaw -/
def k1 : Class := { plain "com/example/cross_town/crosstown/solve/NodeHeapIsEmptyPinLaw" (some 0) with
  accessFlags := 49
  interfaces := #[]
  cf := some (fileOf pool1 25 #[] #[{ accessFlags := 1, nameIndex := 5, descriptorIndex := 6, attributes := #[] }, { accessFlags := 9, nameIndex := 29, descriptorIndex := 30, attributes := #[] }] 49 2 #[] #[])
  fields := #[]
  methods := #[k1m0, k1m1]
  instanceTypes := #[]
  staticTypes := #[]
  resolved := Array.replicate 34 none
  statics := none }

def pool2 : Array CpInfo := pool [(1, .methodref 2 3), (0, .class_ 4), (0, .nameAndType 5 6), (0, u "java/lang/Object"), (0, u "<init>"), (0, u "()V"), (0, .fieldref 8 9), (0, .class_ 10), (0, .nameAndType 11 12), (0, u "com/example/cross_town/crosstown/solve/NodeHeap"), (0, u "heap"), (0, u "[I"), (0, .fieldref 8 14), (0, .nameAndType 15 12), (0, u "position"), (0, .fieldref 8 17), (0, .nameAndType 18 19), (0, u "key"), (0, u "[D"), (0, .methodref 21 22), (0, .class_ 23), (0, .nameAndType 24 25), (0, u "java/util/Arrays"), (0, u "fill"), (0, u "([II)V"), (0, .fieldref 8 27), (0, .nameAndType 28 29), (0, u "size"), (0, u "I"), (0, .methodref 8 31), (0, .nameAndType 32 33), (0, u "siftUp"), (0, u "(II)V"), (0, .methodref 8 35), (0, .nameAndType 36 33), (0, u "siftDown"), (0, .methodref 8 38), (0, .nameAndType 39 33), (0, u "place"), (0, u "ABSENT"), (2, u "(I)V"), (2, u "isEmpty"), (0, u "()Z"), (1, u "insertOrLower"), (0, u "(ID)V"), (0, u "poll"), (0, u "()I")] 2

def k2c0 : Code := { maxStack := 2, maxLocals := 2, code := prog_33_method_1_code, exceptionTable := #[], attributes := #[] }
def k2m0 : Method := { name := "<init>", desc := "(I)V", sig := { parameters := [.int], returnType := none }, accessFlags := 0, code := some k2c0 }
def k2c1 : Code := { maxStack := 1, maxLocals := 1, code := prog_33_method_2_code, exceptionTable := #[], attributes := #[] }
def k2m1 : Method := { name := "isEmpty", desc := "()Z", sig := { parameters := [], returnType := some .boolean }, accessFlags := 0, code := some k2c1 }
def k2c2 : Code := { maxStack := 4, maxLocals := 5, code := prog_33_method_3_code, exceptionTable := #[], attributes := #[] }
def k2m2 : Method := { name := "insertOrLower", desc := "(ID)V", sig := { parameters := [.int, .double], returnType := none }, accessFlags := 0, code := some k2c2 }
def k2c3 : Code := { maxStack := 4, maxLocals := 2, code := prog_33_method_4_code, exceptionTable := #[], attributes := #[] }
def k2m3 : Method := { name := "poll", desc := "()I", sig := { parameters := [], returnType := some .int }, accessFlags := 0, code := some k2c3 }
def k2c4 : Code := { maxStack := 4, maxLocals := 5, code := prog_33_method_5_code, exceptionTable := #[], attributes := #[] }
def k2m4 : Method := { name := "siftUp", desc := "(II)V", sig := { parameters := [.int, .int], returnType := none }, accessFlags := 2, code := some k2c4 }
def k2c5 : Code := { maxStack := 5, maxLocals := 5, code := prog_33_method_6_code, exceptionTable := #[], attributes := #[] }
def k2m5 : Method := { name := "siftDown", desc := "(II)V", sig := { parameters := [.int, .int], returnType := none }, accessFlags := 2, code := some k2c5 }
def k2c6 : Code := { maxStack := 3, maxLocals := 3, code := prog_33_method_7_code, exceptionTable := #[], attributes := #[] }
def k2m6 : Method := { name := "place", desc := "(II)V", sig := { parameters := [.int, .int], returnType := none }, accessFlags := 2, code := some k2c6 }
/-- com/example/cross_town/crosstown/solve/NodeHeap -/
def k2 : Class := { plain "com/example/cross_town/crosstown/solve/NodeHeap" (some 0) with
  accessFlags := 48
  interfaces := #[]
  cf := some (fileOf pool2 8 #[] #[{ accessFlags := 0, nameIndex := 5, descriptorIndex := 43, attributes := #[] }, { accessFlags := 0, nameIndex := 46, descriptorIndex := 47, attributes := #[] }, { accessFlags := 0, nameIndex := 49, descriptorIndex := 50, attributes := #[] }, { accessFlags := 0, nameIndex := 51, descriptorIndex := 52, attributes := #[] }, { accessFlags := 2, nameIndex := 32, descriptorIndex := 33, attributes := #[] }, { accessFlags := 2, nameIndex := 36, descriptorIndex := 33, attributes := #[] }, { accessFlags := 2, nameIndex := 39, descriptorIndex := 33, attributes := #[] }] 48 2 #[] #[{ accessFlags := 26, nameIndex := 40, descriptorIndex := 29, attributes := #[] }, { accessFlags := 18, nameIndex := 11, descriptorIndex := 12, attributes := #[] }, { accessFlags := 18, nameIndex := 15, descriptorIndex := 12, attributes := #[] }, { accessFlags := 18, nameIndex := 18, descriptorIndex := 19, attributes := #[] }, { accessFlags := 2, nameIndex := 28, descriptorIndex := 29, attributes := #[] }])
  fields := #[{ name := "ABSENT", type := .int, accessFlags := 26, slot := 0, constantValue := 0 }, { name := "heap", type := (.array .int), accessFlags := 18, slot := 0, constantValue := 0 }, { name := "position", type := (.array .int), accessFlags := 18, slot := 1, constantValue := 0 }, { name := "key", type := (.array .double), accessFlags := 18, slot := 2, constantValue := 0 }, { name := "size", type := .int, accessFlags := 2, slot := 3, constantValue := 0 }]
  methods := #[k2m0, k2m1, k2m2, k2m3, k2m4, k2m5, k2m6]
  instanceTypes := #[(.array .int), (.array .int), (.array .double), .int]
  staticTypes := #[.int]
  resolved := Array.replicate 55 none
  statics := none }

def pool3 : Array CpInfo := pool [(2, .class_ 4), (1, u "java/lang/Object"), (0, u "<init>"), (0, u "()V"), (7, .class_ 16), (1, u "java/util/Arrays"), (57, .class_ 76), (1, u "java/util/Arrays$NaturalOrder"), (36, .class_ 115), (1, u "java/util/Arrays$LegacyMergeSort"), (1, u "Z"), (257, .class_ 376), (0, u "java/util/Arrays$ArrayList"), (68, u "$assertionsDisabled"), (269, u "MIN_ARRAY_SORT_GRAN"), (0, u "I"), (2, u "INSERTIONSORT_THRESHOLD"), (120, u "fill"), (4, u "([II)V"), (129, .class_ 976), (0, u "java/util/Arrays$ArrayItr")] 52

def k3m0 : Method := { name := "<init>", desc := "()V", sig := { parameters := [], returnType := none }, accessFlags := 2, code := none }
def k3c1 : Code := { maxStack := 3, maxLocals := 4, code := jdk_65_method_103_code, exceptionTable := #[], attributes := #[] }
def k3m1 : Method := { name := "fill", desc := "([II)V", sig := { parameters := [(.array .int), .int], returnType := none }, accessFlags := 9, code := some k3c1 }
/-- java/util/Arrays -/
def k3 : Class := { plain "java/util/Arrays" (some 0) with
  accessFlags := 49
  interfaces := #[]
  cf := some (fileOf pool3 14 #[.nestMembers #[975, 375, 113, 74]] #[{ accessFlags := 2, nameIndex := 5, descriptorIndex := 6, attributes := #[] }, { accessFlags := 9, nameIndex := 840, descriptorIndex := 845, attributes := #[] }] 49 2 #[] #[{ accessFlags := 26, nameIndex := 715, descriptorIndex := 716, attributes := #[] }, { accessFlags := 26, nameIndex := 719, descriptorIndex := 716, attributes := #[] }, { accessFlags := 4120, nameIndex := 445, descriptorIndex := 117, attributes := #[] }])
  fields := #[{ name := "MIN_ARRAY_SORT_GRAN", type := .int, accessFlags := 26, slot := 0, constantValue := 0 }, { name := "INSERTIONSORT_THRESHOLD", type := .int, accessFlags := 26, slot := 1, constantValue := 0 }, { name := "$assertionsDisabled", type := .boolean, accessFlags := 4120, slot := 2, constantValue := 0 }]
  methods := #[k3m0, k3m1]
  instanceTypes := #[]
  staticTypes := #[.int, .int, .boolean]
  resolved := Array.replicate 1029 none
  statics := none }

def pool4 : Array CpInfo := pool [(1, u "java/lang/Cloneable"), (0, .class_ 1), (0, u "java/lang/Object"), (0, .class_ 3)] 3

/-- java/lang/Cloneable -/
def k4 : Class := { plain "java/lang/Cloneable" (some 0) with
  accessFlags := 1537
  interfaces := #[]
  cf := some (fileOf pool4 2 #[] #[] 1537 4 #[] #[])
  fields := #[]
  methods := #[]
  instanceTypes := #[]
  staticTypes := #[]
  resolved := Array.replicate 8 none
  statics := none }

def pool5 : Array CpInfo := pool [(1, u "java/io/Serializable"), (0, .class_ 1), (0, u "java/lang/Object"), (0, .class_ 3)] 3

/-- java/io/Serializable -/
def k5 : Class := { plain "java/io/Serializable" (some 0) with
  accessFlags := 1537
  interfaces := #[]
  cf := some (fileOf pool5 2 #[] #[] 1537 4 #[] #[])
  fields := #[]
  methods := #[]
  instanceTypes := #[]
  staticTypes := #[]
  resolved := Array.replicate 8 none
  statics := none }

/-- the primitive byte -/
def k6 : Class := { plain "byte" none with kind := .primitive 'B', accessFlags := 0x411 }
/-- [B -/
def k7 : Class := { plain "[B" (some 0) with kind := .array 6 .byte, interfaces := #[4, 5], accessFlags := 1041 }

/-- the primitive double -/
def k8 : Class := { plain "double" none with kind := .primitive 'D', accessFlags := 0x411 }
/-- [D -/
def k9 : Class := { plain "[D" (some 0) with kind := .array 8 .double, interfaces := #[4, 5], accessFlags := 1041 }

/-- the primitive int -/
def k10 : Class := { plain "int" none with kind := .primitive 'I', accessFlags := 0x411 }
/-- [I -/
def k11 : Class := { plain "[I" (some 0) with kind := .array 10 .int, interfaces := #[4, 5], accessFlags := 1041 }

def heap : Heap := #[]
def classes : Array Class := #[k0, k1, k2, k3, k4, k5, k6, k7, k8, k9, k10, k11]
def interned : List (Array UInt16 × Addr) := []
def slotsUsed : Nat := 0
def theMethod : MethodId := ⟨1, 1⟩
def args0 : Array Value := #[.int 5, .int 7, .int 9, .int 2, .int 3]
def aboutOver (below : List Frame) : State where
  vm := { classes := classes, interned := interned.toArray }
  heap := heap
  slotsUsed := slotsUsed
  threads := #[{ frames := .invoking theMethod args0 :: below }]
def below0 : List Frame := [.native { method := ⟨0, 0⟩, args := #[] }]
def about1 : State := aboutOver below0
def p0 : Program := .bare "" "" ""
def e0 : Env := launch0.env 0 0 0
theorem w_frames : about1.frames = Frame.invoking theMethod args0 :: below0 := rfl
set_option maxRecDepth 65536 in
theorem w_args : argsFit about1.vm theMethod args0 = true := by decide +kernel
set_option maxRecDepth 65536 in
theorem w_heap : heapFits about1 = true := by decide +kernel
set_option maxRecDepth 65536 in
theorem w_runnable : about1.curStatus? = some .runnable := by decide +kernel
set_option maxRecDepth 65536 in
theorem w_alone : about1.alone = true := by decide +kernel
set_option maxRecDepth 65536 in
theorem w_named : about1.methodNamed? x = some theMethod := by decide +kernel
set_option maxRecDepth 65536 in
theorem w_hears : about1.hears theMethod below0 = true := by decide +kernel
set_option maxRecDepth 65536 in
theorem w_ripe : about1.ripe theMethod args0 below0 = true := by decide +kernel
theorem w_running : about1.status = .running := rfl
set_option maxRecDepth 65536 in
theorem w_room : about1.hasRoom e0.platform room_1 = true :=
  launch0.hasRoom_least _ room_1 (by decide +kernel) (by decide +kernel) (by decide +kernel) (by decide +kernel) (by decide +kernel) (by decide +kernel)
theorem allAtoms_all (ts : List Jvm.Cond) (a : Array Jvm.Value) (st : Jvm.State) : (allAtoms ts).before a st = ts.all (fun c => c.before a st) := by
  induction ts with
  | nil => rfl
  | cons c t ih =>
    show (Jvm.Cond.and c (allAtoms t)).before a st = _
    rw [Jvm.Cond.before_and, ih, List.all_cons]
def words1 : List Jvm.Cond := Jvm.Cond.code x code maxLocals ret :: tables_1
/-- a 'code' word, met by the world's own term for the bytes: nothing is compared byte by byte -/
theorem code_word {y : MethodName} {bytes : ByteArray} {mx : Nat} {rt : Option FieldType} {a : Array Value} {s : State} {m : MethodId} {meth : Method} {c : Code} (h1 : s.methodNamed? y = some m) (h2 : s.vm.method? m = some meth) (h3 : meth.code = some c) (h4 : c.code = bytes)
    (h5 : (c.maxLocals == mx && c.exceptionTable.isEmpty && decide (c.maxStack ≤ mostOperands) && decide (meth.sig.returnType = rt) && !meth.locks && decide (parseMethodDescriptor y.desc = some meth.sig)) = true) : (Jvm.Cond.code y bytes mx rt).before a s = true := by
  simp only [Bool.and_eq_true, beq_iff_eq, Bool.not_eq_true', decide_eq_true_eq] at h5
  obtain ⟨⟨⟨⟨⟨g1, g2⟩, g3⟩, g4⟩, g5⟩, g6⟩ := h5
  simp [Cond.before, Cond.holds, Cond.value, h1, h2, h3, h4, g1, g2, g3, g4, g5, g6]
def isCode : Jvm.Cond → Bool
  | .code _ _ _ _ => true
  | _ => false
theorem all_split {L : List Jvm.Cond} {P : Jvm.Cond → Bool} (h1 : L.all (fun c => isCode c || P c) = true) (h2 : ∀ c ∈ L.filter isCode, P c = true) : L.all P = true := by
  refine List.all_eq_true.mpr fun c hc => ?_
  have h := List.all_eq_true.mp h1 c hc
  rcases Bool.eq_false_or_eq_true (isCode c) with hi | hi
  · exact h2 c (List.mem_filter.mpr ⟨hc, hi⟩)
  · simpa [hi] using h
set_option maxRecDepth 65536 in
theorem w_c0 : (Jvm.Cond.code x code maxLocals ret).before args0 about1 = true := code_word (m := ⟨1, 1⟩) (meth := k1m1) (c := k1c1) (by decide +kernel) rfl rfl rfl (by decide +kernel)
set_option maxRecDepth 65536 in
theorem w_c1 : (Jvm.Cond.code ({ cls := "com/example/cross_town/crosstown/solve/NodeHeap", name := "<init>", desc := "(I)V" } : Jvm.MethodName) prog_33_method_1_code (2 : Nat) (Option.none : Option Jvm.ClassFile.FieldType)).before args0 about1 = true := code_word (m := ⟨2, 0⟩) (meth := k2m0) (c := k2c0) (by decide +kernel) rfl rfl rfl (by decide +kernel)
set_option maxRecDepth 65536 in
theorem w_c2 : (Jvm.Cond.code ({ cls := "java/lang/Object", name := "<init>", desc := "()V" } : Jvm.MethodName) object_method_1_code (1 : Nat) (Option.none : Option Jvm.ClassFile.FieldType)).before args0 about1 = true := code_word (m := ⟨0, 0⟩) (meth := k0m0) (c := k0c0) (by decide +kernel) rfl rfl rfl (by decide +kernel)
set_option maxRecDepth 65536 in
theorem w_c3 : (Jvm.Cond.code ({ cls := "java/util/Arrays", name := "fill", desc := "([II)V" } : Jvm.MethodName) jdk_65_method_103_code (4 : Nat) (Option.none : Option Jvm.ClassFile.FieldType)).before args0 about1 = true := code_word (m := ⟨3, 1⟩) (meth := k3m1) (c := k3c1) (by decide +kernel) rfl rfl rfl (by decide +kernel)
set_option maxRecDepth 65536 in
theorem w_c4 : (Jvm.Cond.code ({ cls := "com/example/cross_town/crosstown/solve/NodeHeap", name := "isEmpty", desc := "()Z" } : Jvm.MethodName) prog_33_method_2_code (1 : Nat) (Option.some Jvm.ClassFile.FieldType.boolean)).before args0 about1 = true := code_word (m := ⟨2, 1⟩) (meth := k2m1) (c := k2c1) (by decide +kernel) rfl rfl rfl (by decide +kernel)
set_option maxRecDepth 65536 in
theorem w_c5 : (Jvm.Cond.code ({ cls := "com/example/cross_town/crosstown/solve/NodeHeap", name := "insertOrLower", desc := "(ID)V" } : Jvm.MethodName) prog_33_method_3_code (5 : Nat) (Option.none : Option Jvm.ClassFile.FieldType)).before args0 about1 = true := code_word (m := ⟨2, 2⟩) (meth := k2m2) (c := k2c2) (by decide +kernel) rfl rfl rfl (by decide +kernel)
set_option maxRecDepth 65536 in
theorem w_c6 : (Jvm.Cond.code ({ cls := "com/example/cross_town/crosstown/solve/NodeHeap", name := "siftUp", desc := "(II)V" } : Jvm.MethodName) prog_33_method_5_code (5 : Nat) (Option.none : Option Jvm.ClassFile.FieldType)).before args0 about1 = true := code_word (m := ⟨2, 4⟩) (meth := k2m4) (c := k2c4) (by decide +kernel) rfl rfl rfl (by decide +kernel)
set_option maxRecDepth 65536 in
theorem w_c7 : (Jvm.Cond.code ({ cls := "com/example/cross_town/crosstown/solve/NodeHeap", name := "place", desc := "(II)V" } : Jvm.MethodName) prog_33_method_7_code (3 : Nat) (Option.none : Option Jvm.ClassFile.FieldType)).before args0 about1 = true := code_word (m := ⟨2, 6⟩) (meth := k2m6) (c := k2c6) (by decide +kernel) rfl rfl rfl (by decide +kernel)
set_option maxRecDepth 65536 in
theorem w_c8 : (Jvm.Cond.code ({ cls := "com/example/cross_town/crosstown/solve/NodeHeap", name := "poll", desc := "()I" } : Jvm.MethodName) prog_33_method_4_code (2 : Nat) (Option.some Jvm.ClassFile.FieldType.int)).before args0 about1 = true := code_word (m := ⟨2, 3⟩) (meth := k2m3) (c := k2c3) (by decide +kernel) rfl rfl rfl (by decide +kernel)
set_option maxRecDepth 65536 in
theorem w_c9 : (Jvm.Cond.code ({ cls := "com/example/cross_town/crosstown/solve/NodeHeap", name := "siftDown", desc := "(II)V" } : Jvm.MethodName) prog_33_method_6_code (5 : Nat) (Option.none : Option Jvm.ClassFile.FieldType)).before args0 about1 = true := code_word (m := ⟨2, 5⟩) (meth := k2m5) (c := k2c5) (by decide +kernel) rfl rfl rfl (by decide +kernel)
def codes1 : List Jvm.Cond := [Jvm.Cond.code x code maxLocals ret, Jvm.Cond.code ({ cls := "com/example/cross_town/crosstown/solve/NodeHeap", name := "<init>", desc := "(I)V" } : Jvm.MethodName) prog_33_method_1_code (2 : Nat) (Option.none : Option Jvm.ClassFile.FieldType), Jvm.Cond.code ({ cls := "java/lang/Object", name := "<init>", desc := "()V" } : Jvm.MethodName) object_method_1_code (1 : Nat) (Option.none : Option Jvm.ClassFile.FieldType), Jvm.Cond.code ({ cls := "java/util/Arrays", name := "fill", desc := "([II)V" } : Jvm.MethodName) jdk_65_method_103_code (4 : Nat) (Option.none : Option Jvm.ClassFile.FieldType), Jvm.Cond.code ({ cls := "com/example/cross_town/crosstown/solve/NodeHeap", name := "isEmpty", desc := "()Z" } : Jvm.MethodName) prog_33_method_2_code (1 : Nat) (Option.some Jvm.ClassFile.FieldType.boolean), Jvm.Cond.code ({ cls := "com/example/cross_town/crosstown/solve/NodeHeap", name := "insertOrLower", desc := "(ID)V" } : Jvm.MethodName) prog_33_method_3_code (5 : Nat) (Option.none : Option Jvm.ClassFile.FieldType), Jvm.Cond.code ({ cls := "com/example/cross_town/crosstown/solve/NodeHeap", name := "siftUp", desc := "(II)V" } : Jvm.MethodName) prog_33_method_5_code (5 : Nat) (Option.none : Option Jvm.ClassFile.FieldType), Jvm.Cond.code ({ cls := "com/example/cross_town/crosstown/solve/NodeHeap", name := "place", desc := "(II)V" } : Jvm.MethodName) prog_33_method_7_code (3 : Nat) (Option.none : Option Jvm.ClassFile.FieldType), Jvm.Cond.code ({ cls := "com/example/cross_town/crosstown/solve/NodeHeap", name := "poll", desc := "()I" } : Jvm.MethodName) prog_33_method_4_code (2 : Nat) (Option.some Jvm.ClassFile.FieldType.int), Jvm.Cond.code ({ cls := "com/example/cross_town/crosstown/solve/NodeHeap", name := "siftDown", desc := "(II)V" } : Jvm.MethodName) prog_33_method_6_code (5 : Nat) (Option.none : Option Jvm.ClassFile.FieldType)]
set_option maxRecDepth 65536 in
theorem codes_eq : words1.filter isCode = codes1 := rfl
theorem w_codes : ∀ c ∈ words1.filter isCode, c.before args0 about1 = true := by
  rw [codes_eq]
  intro c hc
  simp only [codes1, List.mem_cons, List.not_mem_nil, or_false] at hc
  rcases hc with rfl | rfl | rfl | rfl | rfl | rfl | rfl | rfl | rfl | rfl
  · exact w_c0
  · exact w_c1
  · exact w_c2
  · exact w_c3
  · exact w_c4
  · exact w_c5
  · exact w_c6
  · exact w_c7
  · exact w_c8
  · exact w_c9
set_option maxRecDepth 65536 in
theorem w_t1 : (words1.take 24).all (fun c => isCode c || c.before args0 about1) = true := by decide +kernel
set_option maxRecDepth 65536 in
theorem w_t2 : ((words1.drop 24).take 24).all (fun c => isCode c || c.before args0 about1) = true := by decide +kernel
set_option maxRecDepth 65536 in
theorem w_t3 : ((words1.drop 24).drop 24).all (fun c => isCode c || c.before args0 about1) = true := by decide +kernel
theorem w_tables : (allAtoms (Jvm.Cond.code x code maxLocals ret :: tables_1)).before args0 about1 = true := by
  rw [allAtoms_all]
  show words1.all (fun c => c.before args0 about1) = true
  refine all_split ?_ w_codes
  rw [← List.take_append_drop 24 words1, List.all_append, w_t1, ← List.take_append_drop 24 (words1.drop 24), List.all_append, w_t2, w_t3]
  rfl
set_option maxRecDepth 65536 in
theorem w_case : (Jvm.Cond.and given_1 narrow_1).before args0 about1 = true := by decide +kernel
theorem w_applies : (headSpec (Jvm.Cond.code x code maxLocals ret :: tables_1) room_1).applies x e0.platform about1 = true :=
  (Spec.applies_iff w_frames).mpr ⟨w_running, w_runnable, w_alone, w_named, w_hears, w_ripe, w_room, w_tables⟩
theorem atStart : AtStart classFile x code maxLocals ret World_1 tables_1 room_1 Calls_1 rest_1 Pre_1 launch0 p0 e0 about1 theMethod args0 below0 :=
  ⟨lists_1, trivial, launch0.admits_env _ _ _, launch0.least_env, fairChoices_fair.cas, fairChoices_fair.clock, w_frames, w_args, w_heap, w_applies, trivial, trivial, w_case⟩
end start1
theorem witness_1 : WitnessClaimed_1 := ⟨start1.p0, start1.e0, start1.about1, start1.theMethod, start1.args0, start1.below0, start1.atStart⟩
end Jvm.Pilot.@@N@@
