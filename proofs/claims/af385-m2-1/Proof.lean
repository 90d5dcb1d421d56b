import JvmDerived
import JvmDerived.Pilot.@@N@@Statement
import JvmDerived.Pilot.@@N@@Code
set_option linter.unusedVariables false
set_option linter.unusedSimpArgs false
namespace Jvm.Pilot.@@N@@
open Jvm Jvm.ClassFile Sem Op Lib Jvm.Free Jvm.Stand Jvm.LawKit Jvm.RoadKit Jvm.Free.Fl Bundle Jvm.Pilot.@@N@@.Jvm.D
section OwnG
variable {p : Program} {l : Launch} {e : Env} {R : Room} {s : State} {m : MethodId} {args : Array Value} {below : List Frame} {meth : Method} {c : Code} {T : State} {locs : List Loc} {cells slots : Nat} {Z : State} {a0 : Array Value} {h : Heap} {B : ByteArray} {pc pc' : Nat} {L L' : Array Slot} {rest : List Value} {F : Outcome → State → Prop}
def Gt (tb : Tables) (e : Env) (below : List Frame) (F : Outcome → State → Prop) (S : State) : Prop := ∃ s₂ o, Steps tb e below S s₂ ∧ s₂.status = .running ∧ Ended s₂ below o ∧ F o s₂
theorem Gt.go {tb : Tables} {S S' : State} (k : Gt tb e below F S') (q : ∀ t, Steps tb e below S' t → Steps tb e below S t) : Gt tb e below F S := by
  obtain ⟨a, o, h1, h2⟩ := k; exact ⟨a, o, q _ h1, h2⟩
theorem own_join {tb : Tables} {S S' : State} (q : ∀ F', Gt tb e below F' S' → Gt tb e below F' S) (k : Gt tb e below F S') : Gt tb e below F S := q F k
theorem own_cast {tb : Tables} {g g' : JFrame} (q : g = g') (k : Gt tb e below F (T.setTop g')) : Gt tb e below F (T.setTop g) := q ▸ k
theorem own_iadd (X : Stand p l e R s m args below meth c T locs cells slots) (hx : p.tables.exec = Jvm.exec) (hby : c.code = B) {x y v : Int32} (hv : x + y = v) (hd : decode B pc = .ok (.iadd, 1)) (hp : pc + 1 = pc') (k : Gt p.tables e below F (T.setTop (mkF m pc' L (.int v :: rest)))) : Gt p.tables e below F (T.setTop (mkF m pc L (.int y :: .int x :: rest))) := by
  subst hp; exact (by subst hv; exact k.go fun t q => XS.iadd X.here hx rfl (hb hby hd) rfl q)
theorem own_isub (X : Stand p l e R s m args below meth c T locs cells slots) (hx : p.tables.exec = Jvm.exec) (hby : c.code = B) {x y v : Int32} (hv : x - y = v) (hd : decode B pc = .ok (.isub, 1)) (hp : pc + 1 = pc') (k : Gt p.tables e below F (T.setTop (mkF m pc' L (.int v :: rest)))) : Gt p.tables e below F (T.setTop (mkF m pc L (.int y :: .int x :: rest))) := by
  subst hp; exact (by subst hv; exact k.go fun t q => XS.isub X.here hx rfl (hb hby hd) rfl q)
theorem own_imul (X : Stand p l e R s m args below meth c T locs cells slots) (hx : p.tables.exec = Jvm.exec) (hby : c.code = B) {x y v : Int32} (hv : x * y = v) (hd : decode B pc = .ok (.imul, 1)) (hp : pc + 1 = pc') (k : Gt p.tables e below F (T.setTop (mkF m pc' L (.int v :: rest)))) : Gt p.tables e below F (T.setTop (mkF m pc L (.int y :: .int x :: rest))) := by
  subst hp; exact (by subst hv; exact k.go fun t q => XS.imul X.here hx rfl (hb hby hd) rfl q)
theorem own_iand (X : Stand p l e R s m args below meth c T locs cells slots) (hx : p.tables.exec = Jvm.exec) (hby : c.code = B) {x y v : Int32} (hv : x &&& y = v) (hd : decode B pc = .ok (.iand, 1)) (hp : pc + 1 = pc') (k : Gt p.tables e below F (T.setTop (mkF m pc' L (.int v :: rest)))) : Gt p.tables e below F (T.setTop (mkF m pc L (.int y :: .int x :: rest))) := by
  subst hp; exact (by subst hv; exact k.go fun t q => XS.iand X.here hx rfl (hb hby hd) rfl q)
theorem own_ior (X : Stand p l e R s m args below meth c T locs cells slots) (hx : p.tables.exec = Jvm.exec) (hby : c.code = B) {x y v : Int32} (hv : x ||| y = v) (hd : decode B pc = .ok (.ior, 1)) (hp : pc + 1 = pc') (k : Gt p.tables e below F (T.setTop (mkF m pc' L (.int v :: rest)))) : Gt p.tables e below F (T.setTop (mkF m pc L (.int y :: .int x :: rest))) := by
  subst hp; exact (by subst hv; exact k.go fun t q => XS.ior X.here hx rfl (hb hby hd) rfl q)
theorem own_ixor (X : Stand p l e R s m args below meth c T locs cells slots) (hx : p.tables.exec = Jvm.exec) (hby : c.code = B) {x y v : Int32} (hv : x ^^^ y = v) (hd : decode B pc = .ok (.ixor, 1)) (hp : pc + 1 = pc') (k : Gt p.tables e below F (T.setTop (mkF m pc' L (.int v :: rest)))) : Gt p.tables e below F (T.setTop (mkF m pc L (.int y :: .int x :: rest))) := by
  subst hp; exact (by subst hv; exact k.go fun t q => XS.ixor X.here hx rfl (hb hby hd) rfl q)
theorem own_ishl (X : Stand p l e R s m args below meth c T locs cells slots) (hx : p.tables.exec = Jvm.exec) (hby : c.code = B) {x y v : Int32} (hv : x <<< (y &&& 31) = v) (hd : decode B pc = .ok (.ishl, 1)) (hp : pc + 1 = pc') (k : Gt p.tables e below F (T.setTop (mkF m pc' L (.int v :: rest)))) : Gt p.tables e below F (T.setTop (mkF m pc L (.int y :: .int x :: rest))) := by
  subst hp; exact (by subst hv; exact k.go fun t q => XS.ishl X.here hx rfl (hb hby hd) rfl q)
theorem own_ishr (X : Stand p l e R s m args below meth c T locs cells slots) (hx : p.tables.exec = Jvm.exec) (hby : c.code = B) {x y v : Int32} (hv : x >>> (y &&& 31) = v) (hd : decode B pc = .ok (.ishr, 1)) (hp : pc + 1 = pc') (k : Gt p.tables e below F (T.setTop (mkF m pc' L (.int v :: rest)))) : Gt p.tables e below F (T.setTop (mkF m pc L (.int y :: .int x :: rest))) := by
  subst hp; exact (by subst hv; exact k.go fun t q => XS.ishr X.here hx rfl (hb hby hd) rfl q)
theorem own_iushr (X : Stand p l e R s m args below meth c T locs cells slots) (hx : p.tables.exec = Jvm.exec) (hby : c.code = B) {x y v : Int32} (hv : (x.toUInt32 >>> (y &&& 31).toUInt32).toInt32 = v) (hd : decode B pc = .ok (.iushr, 1)) (hp : pc + 1 = pc') (k : Gt p.tables e below F (T.setTop (mkF m pc' L (.int v :: rest)))) : Gt p.tables e below F (T.setTop (mkF m pc L (.int y :: .int x :: rest))) := by
  subst hp; exact (by subst hv; exact k.go fun t q => XS.iushr X.here hx rfl (hb hby hd) rfl q)
theorem own_ladd (X : Stand p l e R s m args below meth c T locs cells slots) (hx : p.tables.exec = Jvm.exec) (hby : c.code = B) {x y v : Int64} (hv : x + y = v) (hd : decode B pc = .ok (.ladd, 1)) (hp : pc + 1 = pc') (k : Gt p.tables e below F (T.setTop (mkF m pc' L (.long v :: rest)))) : Gt p.tables e below F (T.setTop (mkF m pc L (.long y :: .long x :: rest))) := by
  subst hp; exact (by subst hv; exact k.go fun t q => XS.ladd X.here hx rfl (hb hby hd) rfl q)
theorem own_lsub (X : Stand p l e R s m args below meth c T locs cells slots) (hx : p.tables.exec = Jvm.exec) (hby : c.code = B) {x y v : Int64} (hv : x - y = v) (hd : decode B pc = .ok (.lsub, 1)) (hp : pc + 1 = pc') (k : Gt p.tables e below F (T.setTop (mkF m pc' L (.long v :: rest)))) : Gt p.tables e below F (T.setTop (mkF m pc L (.long y :: .long x :: rest))) := by
  subst hp; exact (by subst hv; exact k.go fun t q => XS.lsub X.here hx rfl (hb hby hd) rfl q)
theorem own_lmul (X : Stand p l e R s m args below meth c T locs cells slots) (hx : p.tables.exec = Jvm.exec) (hby : c.code = B) {x y v : Int64} (hv : x * y = v) (hd : decode B pc = .ok (.lmul, 1)) (hp : pc + 1 = pc') (k : Gt p.tables e below F (T.setTop (mkF m pc' L (.long v :: rest)))) : Gt p.tables e below F (T.setTop (mkF m pc L (.long y :: .long x :: rest))) := by
  subst hp; exact (by subst hv; exact k.go fun t q => XS.lmul X.here hx rfl (hb hby hd) rfl q)
theorem own_land (X : Stand p l e R s m args below meth c T locs cells slots) (hx : p.tables.exec = Jvm.exec) (hby : c.code = B) {x y v : Int64} (hv : x &&& y = v) (hd : decode B pc = .ok (.land, 1)) (hp : pc + 1 = pc') (k : Gt p.tables e below F (T.setTop (mkF m pc' L (.long v :: rest)))) : Gt p.tables e below F (T.setTop (mkF m pc L (.long y :: .long x :: rest))) := by
  subst hp; exact (by subst hv; exact k.go fun t q => XS.land X.here hx rfl (hb hby hd) rfl q)
theorem own_lor (X : Stand p l e R s m args below meth c T locs cells slots) (hx : p.tables.exec = Jvm.exec) (hby : c.code = B) {x y v : Int64} (hv : x ||| y = v) (hd : decode B pc = .ok (.lor, 1)) (hp : pc + 1 = pc') (k : Gt p.tables e below F (T.setTop (mkF m pc' L (.long v :: rest)))) : Gt p.tables e below F (T.setTop (mkF m pc L (.long y :: .long x :: rest))) := by
  subst hp; exact (by subst hv; exact k.go fun t q => XS.lor X.here hx rfl (hb hby hd) rfl q)
theorem own_lxor (X : Stand p l e R s m args below meth c T locs cells slots) (hx : p.tables.exec = Jvm.exec) (hby : c.code = B) {x y v : Int64} (hv : x ^^^ y = v) (hd : decode B pc = .ok (.lxor, 1)) (hp : pc + 1 = pc') (k : Gt p.tables e below F (T.setTop (mkF m pc' L (.long v :: rest)))) : Gt p.tables e below F (T.setTop (mkF m pc L (.long y :: .long x :: rest))) := by
  subst hp; exact (by subst hv; exact k.go fun t q => XS.lxor X.here hx rfl (hb hby hd) rfl q)
theorem own_lshl (X : Stand p l e R s m args below meth c T locs cells slots) (hx : p.tables.exec = Jvm.exec) (hby : c.code = B) {x v : Int64} {y : Int32} (hv : x <<< (y &&& 0x3f).toInt64 = v) (hd : decode B pc = .ok (.lshl, 1)) (hp : pc + 1 = pc') (k : Gt p.tables e below F (T.setTop (mkF m pc' L (.long v :: rest)))) : Gt p.tables e below F (T.setTop (mkF m pc L (.int y :: .long x :: rest))) := by
  subst hp; exact (by subst hv; exact k.go fun t q => XS.lshl X.here hx rfl (hb hby hd) rfl q)
theorem own_lshr (X : Stand p l e R s m args below meth c T locs cells slots) (hx : p.tables.exec = Jvm.exec) (hby : c.code = B) {x v : Int64} {y : Int32} (hv : x >>> (y &&& 0x3f).toInt64 = v) (hd : decode B pc = .ok (.lshr, 1)) (hp : pc + 1 = pc') (k : Gt p.tables e below F (T.setTop (mkF m pc' L (.long v :: rest)))) : Gt p.tables e below F (T.setTop (mkF m pc L (.int y :: .long x :: rest))) := by
  subst hp; exact (by subst hv; exact k.go fun t q => XS.lshr X.here hx rfl (hb hby hd) rfl q)
theorem own_lushr (X : Stand p l e R s m args below meth c T locs cells slots) (hx : p.tables.exec = Jvm.exec) (hby : c.code = B) {x v : Int64} {y : Int32} (hv : (x.toUInt64 >>> (y &&& 0x3f).toInt64.toUInt64).toInt64 = v) (hd : decode B pc = .ok (.lushr, 1)) (hp : pc + 1 = pc') (k : Gt p.tables e below F (T.setTop (mkF m pc' L (.long v :: rest)))) : Gt p.tables e below F (T.setTop (mkF m pc L (.int y :: .long x :: rest))) := by
  subst hp; exact (by subst hv; exact k.go fun t q => XS.lushr X.here hx rfl (hb hby hd) rfl q)
theorem own_idiv (X : Stand p l e R s m args below meth c T locs cells slots) (hx : p.tables.exec = Jvm.exec) (hby : c.code = B) {x y v : Int32} (hy : y ≠ 0) (hv : x / y = v) (hd : decode B pc = .ok (.idiv, 1)) (hp : pc + 1 = pc') (k : Gt p.tables e below F (T.setTop (mkF m pc' L (.int v :: rest)))) : Gt p.tables e below F (T.setTop (mkF m pc L (.int y :: .int x :: rest))) := by
  subst hp; exact (by subst hv; exact k.go fun t q => XS.idiv X.here hx rfl (hb hby hd) rfl hy q)
theorem own_irem (X : Stand p l e R s m args below meth c T locs cells slots) (hx : p.tables.exec = Jvm.exec) (hby : c.code = B) {x y v : Int32} (hy : y ≠ 0) (hv : x % y = v) (hd : decode B pc = .ok (.irem, 1)) (hp : pc + 1 = pc') (k : Gt p.tables e below F (T.setTop (mkF m pc' L (.int v :: rest)))) : Gt p.tables e below F (T.setTop (mkF m pc L (.int y :: .int x :: rest))) := by
  subst hp; exact (by subst hv; exact k.go fun t q => iremM X hx rfl (hb hby hd) rfl hy q)
theorem own_ldiv (X : Stand p l e R s m args below meth c T locs cells slots) (hx : p.tables.exec = Jvm.exec) (hby : c.code = B) {x y v : Int64} (hy : y ≠ 0) (hv : x / y = v) (hd : decode B pc = .ok (.ldiv, 1)) (hp : pc + 1 = pc') (k : Gt p.tables e below F (T.setTop (mkF m pc' L (.long v :: rest)))) : Gt p.tables e below F (T.setTop (mkF m pc L (.long y :: .long x :: rest))) := by
  subst hp; exact (by subst hv; exact k.go fun t q => XS.ldiv X.here hx rfl (hb hby hd) rfl hy q)
theorem own_lrem (X : Stand p l e R s m args below meth c T locs cells slots) (hx : p.tables.exec = Jvm.exec) (hby : c.code = B) {x y v : Int64} (hy : y ≠ 0) (hv : x % y = v) (hd : decode B pc = .ok (.lrem, 1)) (hp : pc + 1 = pc') (k : Gt p.tables e below F (T.setTop (mkF m pc' L (.long v :: rest)))) : Gt p.tables e below F (T.setTop (mkF m pc L (.long y :: .long x :: rest))) := by
  subst hp; exact (by subst hv; rw [← lrem_mod] at k; exact k.go fun t q => XS.lrem X.here hx rfl (hb hby hd) rfl hy q)
theorem own_lcmp (X : Stand p l e R s m args below meth c T locs cells slots) (hx : p.tables.exec = Jvm.exec) (hby : c.code = B) {x y : Int64} {v : Int32} (hv : (if x > y then 1 else if x = y then 0 else -1 : Int32) = v) (hd : decode B pc = .ok (.lcmp, 1)) (hp : pc + 1 = pc') (k : Gt p.tables e below F (T.setTop (mkF m pc' L (.int v :: rest)))) : Gt p.tables e below F (T.setTop (mkF m pc L (.long y :: .long x :: rest))) := by
  subst hp; exact (by subst hv; exact k.go fun t q => XS.lcmp X.here hx rfl (hb hby hd) rfl q)
theorem own_ineg (X : Stand p l e R s m args below meth c T locs cells slots) (hx : p.tables.exec = Jvm.exec) (hby : c.code = B) {x v : Int32} (hv : -x = v) (hd : decode B pc = .ok (.ineg, 1)) (hp : pc + 1 = pc') (k : Gt p.tables e below F (T.setTop (mkF m pc' L (.int v :: rest)))) : Gt p.tables e below F (T.setTop (mkF m pc L (.int x :: rest))) := by
  subst hp; exact (by subst hv; exact k.go fun t q => XS.ineg X.here hx rfl (hb hby hd) rfl q)
theorem own_lneg (X : Stand p l e R s m args below meth c T locs cells slots) (hx : p.tables.exec = Jvm.exec) (hby : c.code = B) {x v : Int64} (hv : -x = v) (hd : decode B pc = .ok (.lneg, 1)) (hp : pc + 1 = pc') (k : Gt p.tables e below F (T.setTop (mkF m pc' L (.long v :: rest)))) : Gt p.tables e below F (T.setTop (mkF m pc L (.long x :: rest))) := by
  subst hp; exact (by subst hv; exact k.go fun t q => XS.lneg X.here hx rfl (hb hby hd) rfl q)
theorem own_i2b (X : Stand p l e R s m args below meth c T locs cells slots) (hx : p.tables.exec = Jvm.exec) (hby : c.code = B) {x v : Int32} (hv : x.toInt8.toInt32 = v) (hd : decode B pc = .ok (.i2b, 1)) (hp : pc + 1 = pc') (k : Gt p.tables e below F (T.setTop (mkF m pc' L (.int v :: rest)))) : Gt p.tables e below F (T.setTop (mkF m pc L (.int x :: rest))) := by
  subst hp; exact (by subst hv; exact k.go fun t q => XS.i2b X.here hx rfl (hb hby hd) rfl q)
theorem own_i2c (X : Stand p l e R s m args below meth c T locs cells slots) (hx : p.tables.exec = Jvm.exec) (hby : c.code = B) {x v : Int32} (hv : x.toUInt32.toUInt16.toUInt32.toInt32 = v) (hd : decode B pc = .ok (.i2c, 1)) (hp : pc + 1 = pc') (k : Gt p.tables e below F (T.setTop (mkF m pc' L (.int v :: rest)))) : Gt p.tables e below F (T.setTop (mkF m pc L (.int x :: rest))) := by
  subst hp; exact (by subst hv; exact k.go fun t q => XS.i2c X.here hx rfl (hb hby hd) rfl q)
theorem own_i2s (X : Stand p l e R s m args below meth c T locs cells slots) (hx : p.tables.exec = Jvm.exec) (hby : c.code = B) {x v : Int32} (hv : x.toInt16.toInt32 = v) (hd : decode B pc = .ok (.i2s, 1)) (hp : pc + 1 = pc') (k : Gt p.tables e below F (T.setTop (mkF m pc' L (.int v :: rest)))) : Gt p.tables e below F (T.setTop (mkF m pc L (.int x :: rest))) := by
  subst hp; exact (by subst hv; exact k.go fun t q => XS.i2s X.here hx rfl (hb hby hd) rfl q)
theorem own_i2l (X : Stand p l e R s m args below meth c T locs cells slots) (hx : p.tables.exec = Jvm.exec) (hby : c.code = B) {x : Int32} {v : Int64} (hv : x.toInt64 = v) (hd : decode B pc = .ok (.i2l, 1)) (hp : pc + 1 = pc') (k : Gt p.tables e below F (T.setTop (mkF m pc' L (.long v :: rest)))) : Gt p.tables e below F (T.setTop (mkF m pc L (.int x :: rest))) := by
  subst hp; exact (by subst hv; exact k.go fun t q => XS.i2l X.here hx rfl (hb hby hd) rfl q)
theorem own_l2i (X : Stand p l e R s m args below meth c T locs cells slots) (hx : p.tables.exec = Jvm.exec) (hby : c.code = B) {x : Int64} {v : Int32} (hv : x.toInt32 = v) (hd : decode B pc = .ok (.l2i, 1)) (hp : pc + 1 = pc') (k : Gt p.tables e below F (T.setTop (mkF m pc' L (.int v :: rest)))) : Gt p.tables e below F (T.setTop (mkF m pc L (.long x :: rest))) := by
  subst hp; exact (by subst hv; exact k.go fun t q => XS.l2i X.here hx rfl (hb hby hd) rfl q)
theorem own_iload (X : Stand p l e R s m args below meth c T locs cells slots) (hx : p.tables.exec = Jvm.exec) (hby : c.code = B) {i : Nat} {v : Int32} (hl : L[i]? = some (.val (.int v))) (hd : decode B pc = .ok (.iload i, 2)) (hp : pc + 2 = pc') (k : Gt p.tables e below F (T.setTop (mkF m pc' L (.int v :: rest)))) : Gt p.tables e below F (T.setTop (mkF m pc L rest)) := by
  subst hp; exact k.go fun t q => XS.iload X.here hx rfl (hb hby hd) hl q
theorem own_iloadN (X : Stand p l e R s m args below meth c T locs cells slots) (hx : p.tables.exec = Jvm.exec) (hby : c.code = B) {i : Fin 4} {v : Int32} (hl : L[i.val]? = some (.val (.int v))) (hd : decode B pc = .ok (.iload_n i, 1)) (hp : pc + 1 = pc') (k : Gt p.tables e below F (T.setTop (mkF m pc' L (.int v :: rest)))) : Gt p.tables e below F (T.setTop (mkF m pc L rest)) := by
  subst hp; exact k.go fun t q => XS.iloadN X.here hx rfl (hb hby hd) hl q
theorem own_lload (X : Stand p l e R s m args below meth c T locs cells slots) (hx : p.tables.exec = Jvm.exec) (hby : c.code = B) {i : Nat} {v : Int64} (hl : L[i]? = some (.val (.long v))) (hd : decode B pc = .ok (.lload i, 2)) (hp : pc + 2 = pc') (k : Gt p.tables e below F (T.setTop (mkF m pc' L (.long v :: rest)))) : Gt p.tables e below F (T.setTop (mkF m pc L rest)) := by
  subst hp; exact k.go fun t q => XS.lload X.here hx rfl (hb hby hd) hl q
theorem own_lloadN (X : Stand p l e R s m args below meth c T locs cells slots) (hx : p.tables.exec = Jvm.exec) (hby : c.code = B) {i : Fin 4} {v : Int64} (hl : L[i.val]? = some (.val (.long v))) (hd : decode B pc = .ok (.lload_n i, 1)) (hp : pc + 1 = pc') (k : Gt p.tables e below F (T.setTop (mkF m pc' L (.long v :: rest)))) : Gt p.tables e below F (T.setTop (mkF m pc L rest)) := by
  subst hp; exact k.go fun t q => XS.lloadN X.here hx rfl (hb hby hd) hl q
theorem own_dload (X : Stand p l e R s m args below meth c T locs cells slots) (hx : p.tables.exec = Jvm.exec) (hby : c.code = B) {i : Nat} {v : UInt64} (hl : L[i]? = some (.val (.double v))) (hd : decode B pc = .ok (.dload i, 2)) (hp : pc + 2 = pc') (k : Gt p.tables e below F (T.setTop (mkF m pc' L (.double v :: rest)))) : Gt p.tables e below F (T.setTop (mkF m pc L rest)) := by
  subst hp; exact k.go fun t q => XS.dload X.here hx rfl (hb hby hd) hl q
theorem own_dloadN (X : Stand p l e R s m args below meth c T locs cells slots) (hx : p.tables.exec = Jvm.exec) (hby : c.code = B) {i : Fin 4} {v : UInt64} (hl : L[i.val]? = some (.val (.double v))) (hd : decode B pc = .ok (.dload_n i, 1)) (hp : pc + 1 = pc') (k : Gt p.tables e below F (T.setTop (mkF m pc' L (.double v :: rest)))) : Gt p.tables e below F (T.setTop (mkF m pc L rest)) := by
  subst hp; exact k.go fun t q => XS.dloadN X.here hx rfl (hb hby hd) hl q
theorem own_aload (X : Stand p l e R s m args below meth c T locs cells slots) (hx : p.tables.exec = Jvm.exec) (hby : c.code = B) {i : Nat} {v : Value} (hl : L[i]? = some (.val v)) (hr : v.isRef = true) (hd : decode B pc = .ok (.aload i, 2)) (hp : pc + 2 = pc') (k : Gt p.tables e below F (T.setTop (mkF m pc' L (v :: rest)))) : Gt p.tables e below F (T.setTop (mkF m pc L rest)) := by
  subst hp; exact k.go fun t q => XS.aload X.here hx rfl (hb hby hd) hl hr q
theorem own_aloadN (X : Stand p l e R s m args below meth c T locs cells slots) (hx : p.tables.exec = Jvm.exec) (hby : c.code = B) {i : Fin 4} {v : Value} (hl : L[i.val]? = some (.val v)) (hr : v.isRef = true) (hd : decode B pc = .ok (.aload_n i, 1)) (hp : pc + 1 = pc') (k : Gt p.tables e below F (T.setTop (mkF m pc' L (v :: rest)))) : Gt p.tables e below F (T.setTop (mkF m pc L rest)) := by
  subst hp; exact k.go fun t q => XS.aloadN X.here hx rfl (hb hby hd) hl hr q
theorem own_istore (X : Stand p l e R s m args below meth c T locs cells slots) (hx : p.tables.exec = Jvm.exec) (hby : c.code = B) {i : Nat} {v : Int32} (hl : storeLocals L i (.int v) = some L') (hd : decode B pc = .ok (.istore i, 2)) (hp : pc + 2 = pc') (k : Gt p.tables e below F (T.setTop (mkF m pc' L' rest))) : Gt p.tables e below F (T.setTop (mkF m pc L (.int v :: rest))) := by
  subst hp; exact k.go fun t q => XS.istore X.here hx rfl (hb hby hd) rfl hl q
theorem own_istoreN (X : Stand p l e R s m args below meth c T locs cells slots) (hx : p.tables.exec = Jvm.exec) (hby : c.code = B) {i : Fin 4} {v : Int32} (hl : storeLocals L i.val (.int v) = some L') (hd : decode B pc = .ok (.istore_n i, 1)) (hp : pc + 1 = pc') (k : Gt p.tables e below F (T.setTop (mkF m pc' L' rest))) : Gt p.tables e below F (T.setTop (mkF m pc L (.int v :: rest))) := by
  subst hp; exact k.go fun t q => XS.istoreN X.here hx rfl (hb hby hd) rfl hl q
theorem own_lstore (X : Stand p l e R s m args below meth c T locs cells slots) (hx : p.tables.exec = Jvm.exec) (hby : c.code = B) {i : Nat} {v : Int64} (hl : storeLocals L i (.long v) = some L') (hd : decode B pc = .ok (.lstore i, 2)) (hp : pc + 2 = pc') (k : Gt p.tables e below F (T.setTop (mkF m pc' L' rest))) : Gt p.tables e below F (T.setTop (mkF m pc L (.long v :: rest))) := by
  subst hp; exact k.go fun t q => XS.lstore X.here hx rfl (hb hby hd) rfl hl q
theorem own_lstoreN (X : Stand p l e R s m args below meth c T locs cells slots) (hx : p.tables.exec = Jvm.exec) (hby : c.code = B) {i : Fin 4} {v : Int64} (hl : storeLocals L i.val (.long v) = some L') (hd : decode B pc = .ok (.lstore_n i, 1)) (hp : pc + 1 = pc') (k : Gt p.tables e below F (T.setTop (mkF m pc' L' rest))) : Gt p.tables e below F (T.setTop (mkF m pc L (.long v :: rest))) := by
  subst hp; exact k.go fun t q => XS.lstoreN X.here hx rfl (hb hby hd) rfl hl q
theorem own_dstore (X : Stand p l e R s m args below meth c T locs cells slots) (hx : p.tables.exec = Jvm.exec) (hby : c.code = B) {i : Nat} {v : UInt64} (hl : storeLocals L i (.double v) = some L') (hd : decode B pc = .ok (.dstore i, 2)) (hp : pc + 2 = pc') (k : Gt p.tables e below F (T.setTop (mkF m pc' L' rest))) : Gt p.tables e below F (T.setTop (mkF m pc L (.double v :: rest))) := by
  subst hp; exact k.go fun t q => XS.dstore X.here hx rfl (hb hby hd) rfl hl q
theorem own_dstoreN (X : Stand p l e R s m args below meth c T locs cells slots) (hx : p.tables.exec = Jvm.exec) (hby : c.code = B) {i : Fin 4} {v : UInt64} (hl : storeLocals L i.val (.double v) = some L') (hd : decode B pc = .ok (.dstore_n i, 1)) (hp : pc + 1 = pc') (k : Gt p.tables e below F (T.setTop (mkF m pc' L' rest))) : Gt p.tables e below F (T.setTop (mkF m pc L (.double v :: rest))) := by
  subst hp; exact k.go fun t q => XS.dstoreN X.here hx rfl (hb hby hd) rfl hl q
theorem own_astore (X : Stand p l e R s m args below meth c T locs cells slots) (hx : p.tables.exec = Jvm.exec) (hby : c.code = B) {i : Nat} {v : Value} (hr : v.isRef = true) (hl : storeLocals L i v = some L') (hd : decode B pc = .ok (.astore i, 2)) (hp : pc + 2 = pc') (k : Gt p.tables e below F (T.setTop (mkF m pc' L' rest))) : Gt p.tables e below F (T.setTop (mkF m pc L (v :: rest))) := by
  subst hp; exact k.go fun t q => XS.astore X.here hx rfl (hb hby hd) rfl hr hl q
theorem own_astoreN (X : Stand p l e R s m args below meth c T locs cells slots) (hx : p.tables.exec = Jvm.exec) (hby : c.code = B) {i : Fin 4} {v : Value} (hr : v.isRef = true) (hl : storeLocals L i.val v = some L') (hd : decode B pc = .ok (.astore_n i, 1)) (hp : pc + 1 = pc') (k : Gt p.tables e below F (T.setTop (mkF m pc' L' rest))) : Gt p.tables e below F (T.setTop (mkF m pc L (v :: rest))) := by
  subst hp; exact k.go fun t q => XS.astoreN X.here hx rfl (hb hby hd) rfl hr hl q
theorem own_iinc (X : Stand p l e R s m args below meth c T locs cells slots) (hx : p.tables.exec = Jvm.exec) (hby : c.code = B) {i : Nat} {cst : Int} {x : Int32} (hl : L[i]? = some (.val (.int x))) (hl' : storeLocals L i (.int (x + Int32.ofInt cst)) = some L') (hd : decode B pc = .ok (.iinc i cst, 3)) (hp : pc + 3 = pc') (k : Gt p.tables e below F (T.setTop (mkF m pc' L' rest))) : Gt p.tables e below F (T.setTop (mkF m pc L rest)) := by
  subst hp; exact k.go fun t q => XS.iinc X.here hx rfl (hb hby hd) hl hl' q
theorem own_iconst (X : Stand p l e R s m args below meth c T locs cells slots) (hx : p.tables.exec = Jvm.exec) (hby : c.code = B) {i : Int} {v : Int32} (hv : Int32.ofInt i = v) (hd : decode B pc = .ok (.iconst i, 1)) (hp : pc + 1 = pc') (k : Gt p.tables e below F (T.setTop (mkF m pc' L (.int v :: rest)))) : Gt p.tables e below F (T.setTop (mkF m pc L rest)) := by
  subst hp; exact (by subst hv; exact k.go fun t q => XS.iconst X.here hx rfl (hb hby hd) q)
theorem own_bipush (X : Stand p l e R s m args below meth c T locs cells slots) (hx : p.tables.exec = Jvm.exec) (hby : c.code = B) {i : Int} {v : Int32} (hv : (Int8.ofInt i).toInt32 = v) (hd : decode B pc = .ok (.bipush i, 2)) (hp : pc + 2 = pc') (k : Gt p.tables e below F (T.setTop (mkF m pc' L (.int v :: rest)))) : Gt p.tables e below F (T.setTop (mkF m pc L rest)) := by
  subst hp; exact (by subst hv; exact k.go fun t q => XS.bipush X.here hx rfl (hb hby hd) q)
theorem own_sipush (X : Stand p l e R s m args below meth c T locs cells slots) (hx : p.tables.exec = Jvm.exec) (hby : c.code = B) {i : Int} {v : Int32} (hv : (Int16.ofInt i).toInt32 = v) (hd : decode B pc = .ok (.sipush i, 3)) (hp : pc + 3 = pc') (k : Gt p.tables e below F (T.setTop (mkF m pc' L (.int v :: rest)))) : Gt p.tables e below F (T.setTop (mkF m pc L rest)) := by
  subst hp; exact (by subst hv; exact k.go fun t q => XS.sipush X.here hx rfl (hb hby hd) q)
theorem own_lconst (X : Stand p l e R s m args below meth c T locs cells slots) (hx : p.tables.exec = Jvm.exec) (hby : c.code = B) {i : Fin 2} {v : Int64} (hv : Int64.ofNat i = v) (hd : decode B pc = .ok (.lconst i, 1)) (hp : pc + 1 = pc') (k : Gt p.tables e below F (T.setTop (mkF m pc' L (.long v :: rest)))) : Gt p.tables e below F (T.setTop (mkF m pc L rest)) := by
  subst hp; exact (by subst hv; exact k.go fun t q => XS.lconst X.here hx rfl (hb hby hd) q)
theorem own_aconst (X : Stand p l e R s m args below meth c T locs cells slots) (hx : p.tables.exec = Jvm.exec) (hby : c.code = B)  (hd : decode B pc = .ok (.aconst_null, 1)) (hp : pc + 1 = pc') (k : Gt p.tables e below F (T.setTop (mkF m pc' L (.null :: rest)))) : Gt p.tables e below F (T.setTop (mkF m pc L rest)) := by
  subst hp; exact k.go fun t q => XS.aconstNull X.here hx rfl (hb hby hd) q
theorem own_dconst0 (X : Stand p l e R s m args below meth c T locs cells slots) (hx : p.tables.exec = Jvm.exec) (hby : c.code = B) {v : UInt64} (hv : FP.dconst0 = v) (hd : decode B pc = .ok (.dconst 0, 1)) (hp : pc + 1 = pc') (k : Gt p.tables e below F (T.setTop (mkF m pc' L (.double v :: rest)))) : Gt p.tables e below F (T.setTop (mkF m pc L rest)) := by
  subst hp; exact k.go fun t q => XS.dconst0 X.here hx rfl (hb hby hd) hv q
theorem own_dconst1 (X : Stand p l e R s m args below meth c T locs cells slots) (hx : p.tables.exec = Jvm.exec) (hby : c.code = B) {v : UInt64} (hv : FP.dconst1 = v) (hd : decode B pc = .ok (.dconst 1, 1)) (hp : pc + 1 = pc') (k : Gt p.tables e below F (T.setTop (mkF m pc' L (.double v :: rest)))) : Gt p.tables e below F (T.setTop (mkF m pc L rest)) := by
  subst hp; exact k.go fun t q => XS.dconst1 X.here hx rfl (hb hby hd) hv q
theorem own_dadd (X : Stand p l e R s m args below meth c T locs cells slots) (hx : p.tables.exec = Jvm.exec) (hby : c.code = B) {x y v : UInt64} (hn : NoNaN64 (FP.dadd x y)) (hv : FP.dadd x y = v) (hd : decode B pc = .ok (.dadd, 1)) (hp : pc + 1 = pc') (k : Gt p.tables e below F (T.setTop (mkF m pc' L (.double v :: rest)))) : Gt p.tables e below F (T.setTop (mkF m pc L (.double y :: .double x :: rest))) := by
  subst hp; exact k.go fun t q => XS.daddS X.here hx rfl (hb hby hd) rfl hn hv q
theorem own_dsub (X : Stand p l e R s m args below meth c T locs cells slots) (hx : p.tables.exec = Jvm.exec) (hby : c.code = B) {x y v : UInt64} (hn : NoNaN64 (FP.dsub x y)) (hv : FP.dsub x y = v) (hd : decode B pc = .ok (.dsub, 1)) (hp : pc + 1 = pc') (k : Gt p.tables e below F (T.setTop (mkF m pc' L (.double v :: rest)))) : Gt p.tables e below F (T.setTop (mkF m pc L (.double y :: .double x :: rest))) := by
  subst hp; exact k.go fun t q => XS.dsubS X.here hx rfl (hb hby hd) rfl hn hv q
theorem own_dmul (X : Stand p l e R s m args below meth c T locs cells slots) (hx : p.tables.exec = Jvm.exec) (hby : c.code = B) {x y v : UInt64} (hn : NoNaN64 (FP.dmul x y)) (hv : FP.dmul x y = v) (hd : decode B pc = .ok (.dmul, 1)) (hp : pc + 1 = pc') (k : Gt p.tables e below F (T.setTop (mkF m pc' L (.double v :: rest)))) : Gt p.tables e below F (T.setTop (mkF m pc L (.double y :: .double x :: rest))) := by
  subst hp; exact k.go fun t q => XS.dmulS X.here hx rfl (hb hby hd) rfl hn hv q
theorem own_ddiv (X : Stand p l e R s m args below meth c T locs cells slots) (hx : p.tables.exec = Jvm.exec) (hby : c.code = B) {x y v : UInt64} (hn : NoNaN64 (FP.ddiv x y)) (hv : FP.ddiv x y = v) (hd : decode B pc = .ok (.ddiv, 1)) (hp : pc + 1 = pc') (k : Gt p.tables e below F (T.setTop (mkF m pc' L (.double v :: rest)))) : Gt p.tables e below F (T.setTop (mkF m pc L (.double y :: .double x :: rest))) := by
  subst hp; exact k.go fun t q => XS.ddivS X.here hx rfl (hb hby hd) rfl hn hv q
theorem own_dneg (X : Stand p l e R s m args below meth c T locs cells slots) (hx : p.tables.exec = Jvm.exec) (hby : c.code = B) {x v : UInt64} (hv : FP.dneg x = v) (hd : decode B pc = .ok (.dneg, 1)) (hp : pc + 1 = pc') (k : Gt p.tables e below F (T.setTop (mkF m pc' L (.double v :: rest)))) : Gt p.tables e below F (T.setTop (mkF m pc L (.double x :: rest))) := by
  subst hp; exact k.go fun t q => XS.dnegS X.here hx rfl (hb hby hd) rfl hv q
theorem own_dcmp (X : Stand p l e R s m args below meth c T locs cells slots) (hx : p.tables.exec = Jvm.exec) (hby : c.code = B) {o : CmpOp} {x y : UInt64} {v : Int32} (hv : cmpValue (FP.dcmp x y) o = v) (hd : decode B pc = .ok (.dcmp o, 1)) (hp : pc + 1 = pc') (k : Gt p.tables e below F (T.setTop (mkF m pc' L (.int v :: rest)))) : Gt p.tables e below F (T.setTop (mkF m pc L (.double y :: .double x :: rest))) := by
  subst hp; exact k.go fun t q => XS.dcmpS X.here hx rfl (hb hby hd) rfl hv q
theorem own_i2d (X : Stand p l e R s m args below meth c T locs cells slots) (hx : p.tables.exec = Jvm.exec) (hby : c.code = B) {x : Int32} {v : UInt64} (hv : FP.i2d x = v) (hd : decode B pc = .ok (.i2d, 1)) (hp : pc + 1 = pc') (k : Gt p.tables e below F (T.setTop (mkF m pc' L (.double v :: rest)))) : Gt p.tables e below F (T.setTop (mkF m pc L (.int x :: rest))) := by
  subst hp; exact k.go fun t q => XS.i2dS X.here hx rfl (hb hby hd) rfl hv q
theorem own_l2d (X : Stand p l e R s m args below meth c T locs cells slots) (hx : p.tables.exec = Jvm.exec) (hby : c.code = B) {x : Int64} {v : UInt64} (hv : FP.l2d x = v) (hd : decode B pc = .ok (.l2d, 1)) (hp : pc + 1 = pc') (k : Gt p.tables e below F (T.setTop (mkF m pc' L (.double v :: rest)))) : Gt p.tables e below F (T.setTop (mkF m pc L (.long x :: rest))) := by
  subst hp; exact k.go fun t q => XS.l2dS X.here hx rfl (hb hby hd) rfl hv q
theorem own_dup (X : Stand p l e R s m args below meth c T locs cells slots) (hx : p.tables.exec = Jvm.exec) (hby : c.code = B) {x : Value} (hc : x.category = 1) (hd : decode B pc = .ok (.dup, 1)) (hp : pc + 1 = pc') (k : Gt p.tables e below F (T.setTop (mkF m pc' L (x :: x :: rest)))) : Gt p.tables e below F (T.setTop (mkF m pc L (x :: rest))) := by
  subst hp; exact k.go fun t q => XS.dup X.here hx rfl (hb hby hd) rfl hc q
theorem own_pop (X : Stand p l e R s m args below meth c T locs cells slots) (hx : p.tables.exec = Jvm.exec) (hby : c.code = B) {x : Value} (hc : x.category = 1) (hd : decode B pc = .ok (.pop, 1)) (hp : pc + 1 = pc') (k : Gt p.tables e below F (T.setTop (mkF m pc' L rest))) : Gt p.tables e below F (T.setTop (mkF m pc L (x :: rest))) := by
  subst hp; exact k.go fun t q => XS.pop X.here hx rfl (hb hby hd) rfl hc q
theorem own_dupX1 (X : Stand p l e R s m args below meth c T locs cells slots) (hx : p.tables.exec = Jvm.exec) (hby : c.code = B) {x y : Value} (hc : x.category = 1) (hc' : y.category = 1) (hd : decode B pc = .ok (.dup_x1, 1)) (hp : pc + 1 = pc') (k : Gt p.tables e below F (T.setTop (mkF m pc' L (x :: y :: x :: rest)))) : Gt p.tables e below F (T.setTop (mkF m pc L (x :: y :: rest))) := by
  subst hp; exact k.go fun t q => XS.dupX1 X.here hx rfl (hb hby hd) rfl hc hc' q
theorem own_dup2 (X : Stand p l e R s m args below meth c T locs cells slots) (hx : p.tables.exec = Jvm.exec) (hby : c.code = B) {x y : Value} (hc : x.category = 1) (hc' : y.category = 1) (hd : decode B pc = .ok (.dup2, 1)) (hp : pc + 1 = pc') (k : Gt p.tables e below F (T.setTop (mkF m pc' L (x :: y :: x :: y :: rest)))) : Gt p.tables e below F (T.setTop (mkF m pc L (x :: y :: rest))) := by
  subst hp; exact k.go fun t q => Jvm.Free.XT.dup2 X.here hx rfl (hb hby hd) rfl hc hc' q
theorem own_goto (X : Stand p l e R s m args below meth c T locs cells slots) (hx : p.tables.exec = Jvm.exec) (hby : c.code = B) {o : Int} (hd : decode B pc = .ok (.goto o, 3)) (ho : 0 ≤ (pc : Int) + o) (hp : ((pc : Int) + o).toNat = pc') (k : Gt p.tables e below F (T.setTop (mkF m pc' L rest))) : Gt p.tables e below F (T.setTop (mkF m pc L rest)) :=
  k.go fun t q => XS.goto X.here hx rfl rfl (hb hby hd) ho hp q
theorem own_ifT (X : Stand p l e R s m args below meth c T locs cells slots) (hx : p.tables.exec = Jvm.exec) (hby : c.code = B) {cd : ClassFile.Cond} {x : Int32} {o : Int} (hd : decode B pc = .ok (.ifCond cd o, 3)) (hc : ifCond.holds cd x = true) (ho : 0 ≤ (pc : Int) + o) (hp : ((pc : Int) + o).toNat = pc') (k : Gt p.tables e below F (T.setTop (mkF m pc' L rest))) : Gt p.tables e below F (T.setTop (mkF m pc L (.int x :: rest))) :=
  k.go fun t q => XS.ifYes X.here hx rfl rfl (hb hby hd) rfl hc ho hp q
theorem own_ifF (X : Stand p l e R s m args below meth c T locs cells slots) (hx : p.tables.exec = Jvm.exec) (hby : c.code = B) {cd : ClassFile.Cond} {x : Int32} {o : Int} (hd : decode B pc = .ok (.ifCond cd o, 3)) (hc : ifCond.holds cd x = false) (hp : pc + 3 = pc') (k : Gt p.tables e below F (T.setTop (mkF m pc' L rest))) : Gt p.tables e below F (T.setTop (mkF m pc L (.int x :: rest))) := by
  subst hp; exact k.go fun t q => XS.ifNo X.here hx rfl (hb hby hd) rfl hc q
theorem own_icT (X : Stand p l e R s m args below meth c T locs cells slots) (hx : p.tables.exec = Jvm.exec) (hby : c.code = B) {cd : ClassFile.Cond} {x y : Int32} {o : Int} (hd : decode B pc = .ok (.if_icmp cd o, 3)) (hc : if_icmp.holds cd x y = true) (ho : 0 ≤ (pc : Int) + o) (hp : ((pc : Int) + o).toNat = pc') (k : Gt p.tables e below F (T.setTop (mkF m pc' L rest))) : Gt p.tables e below F (T.setTop (mkF m pc L (.int y :: .int x :: rest))) :=
  k.go fun t q => XS.icmpYes X.here hx rfl rfl (hb hby hd) rfl hc ho hp q
theorem own_icF (X : Stand p l e R s m args below meth c T locs cells slots) (hx : p.tables.exec = Jvm.exec) (hby : c.code = B) {cd : ClassFile.Cond} {x y : Int32} {o : Int} (hd : decode B pc = .ok (.if_icmp cd o, 3)) (hc : if_icmp.holds cd x y = false) (hp : pc + 3 = pc') (k : Gt p.tables e below F (T.setTop (mkF m pc' L rest))) : Gt p.tables e below F (T.setTop (mkF m pc L (.int y :: .int x :: rest))) := by
  subst hp; exact k.go fun t q => XS.icmpNo X.here hx rfl (hb hby hd) rfl hc q
theorem own_ifnullT (X : Stand p l e R s m args below meth c T locs cells slots) (hx : p.tables.exec = Jvm.exec) (hby : c.code = B) {o : Int} (hd : decode B pc = .ok (.ifnull o, 3)) (ho : 0 ≤ (pc : Int) + o) (hp : ((pc : Int) + o).toNat = pc') (k : Gt p.tables e below F (T.setTop (mkF m pc' L rest))) : Gt p.tables e below F (T.setTop (mkF m pc L (.null :: rest))) :=
  k.go fun t q => XS.ifnullYes X.here hx rfl rfl (hb hby hd) rfl ho hp q
theorem own_ifnullF (X : Stand p l e R s m args below meth c T locs cells slots) (hx : p.tables.exec = Jvm.exec) (hby : c.code = B) {o : Int} {b : Addr} (hd : decode B pc = .ok (.ifnull o, 3)) (hp : pc + 3 = pc') (k : Gt p.tables e below F (T.setTop (mkF m pc' L rest))) : Gt p.tables e below F (T.setTop (mkF m pc L (.ref b :: rest))) := by
  subst hp; exact k.go fun t q => XS.ifnullNo X.here hx rfl (hb hby hd) rfl q
theorem own_ifnonnullT (X : Stand p l e R s m args below meth c T locs cells slots) (hx : p.tables.exec = Jvm.exec) (hby : c.code = B) {o : Int} {b : Addr} (hd : decode B pc = .ok (.ifnonnull o, 3)) (ho : 0 ≤ (pc : Int) + o) (hp : ((pc : Int) + o).toNat = pc') (k : Gt p.tables e below F (T.setTop (mkF m pc' L rest))) : Gt p.tables e below F (T.setTop (mkF m pc L (.ref b :: rest))) :=
  k.go fun t q => XS.ifnonnullYes X.here hx rfl rfl (hb hby hd) rfl ho hp q
theorem own_ifnonnullF (X : Stand p l e R s m args below meth c T locs cells slots) (hx : p.tables.exec = Jvm.exec) (hby : c.code = B) {o : Int} (hd : decode B pc = .ok (.ifnonnull o, 3)) (hp : pc + 3 = pc') (k : Gt p.tables e below F (T.setTop (mkF m pc' L rest))) : Gt p.tables e below F (T.setTop (mkF m pc L (.null :: rest))) := by
  subst hp; exact k.go fun t q => XS.ifnonnullNo X.here hx rfl (hb hby hd) rfl q
theorem own_acmp (X : Stand p l e R s m args below meth c T locs cells slots) (hx : p.tables.exec = Jvm.exec) (hby : c.code = B) {cd : ACond} {x y : Value} (h1 : x.isRef = true) (h2 : y.isRef = true) {o : Int} {same : Bool} (hd : decode B pc = .ok (.if_acmp cd o, 3)) (hq : decide (x = y) = same) (ho : 0 ≤ (pc : Int) + o) (hp : pc' = if acV cd same = true then ((pc : Int) + o).toNat else pc + 3) (k : Gt p.tables e below F (T.setTop (mkF m pc' L rest))) : Gt p.tables e below F (T.setTop (mkF m pc L (y :: x :: rest))) :=
  k.go fun t q => Jvm.RoadKit.acmp X hx rfl h1 h2 rfl (hb hby hd) rfl hq ho hp q
theorem own_ldcI (X : Stand p l e R s m args below meth c T locs cells slots) (hx : p.tables.exec = Jvm.exec) (hby : c.code = B) (hZ : Z.Warmed39 s.vm) {own : String} {i : Nat} {v : Int32} (hown : s.vm.findClass own = some m.cls) (w : (Jvm.Cond.constant own i v).before a0 Z = true) (hd : decode B pc = .ok (.ldc i, 2)) (hp : pc + 2 = pc') (k : Gt p.tables e below F (T.setTop (mkF m pc' L (.int v :: rest)))) : Gt p.tables e below F (T.setTop (mkF m pc L rest)) := by
  subst hp; exact k.go (X.ldcInt hx hown (mvT hZ w) (g := mkF m pc L rest) rfl (hb hby hd))
theorem own_ldc2L (X : Stand p l e R s m args below meth c T locs cells slots) (hx : p.tables.exec = Jvm.exec) (hby : c.code = B) (hZ : Z.Warmed39 s.vm) {own : String} {i : Nat} {v : Int64} (hown : s.vm.findClass own = some m.cls) (w : (Jvm.Cond.constantLong own i v).before a0 Z = true) (hd : decode B pc = .ok (.ldc2_w i, 3)) (hp : pc + 3 = pc') (k : Gt p.tables e below F (T.setTop (mkF m pc' L (.long v :: rest)))) : Gt p.tables e below F (T.setTop (mkF m pc L rest)) := by
  subst hp; exact k.go (X.ldc2Long hx hown (mvT hZ w) (g := mkF m pc L rest) rfl (hb hby hd))
theorem own_ldc2D (X : Stand p l e R s m args below meth c T locs cells slots) (hx : p.tables.exec = Jvm.exec) (hby : c.code = B) (hZ : Z.Warmed39 s.vm) {own : String} {i : Nat} {v : UInt64} (hown : s.vm.findClass own = some m.cls) (w : (Jvm.Cond.constantDouble own i v).before a0 Z = true) (hd : decode B pc = .ok (.ldc2_w i, 3)) (hp : pc + 3 = pc') (k : Gt p.tables e below F (T.setTop (mkF m pc' L (.double v :: rest)))) : Gt p.tables e below F (T.setTop (mkF m pc L rest)) := by
  subst hp; exact k.go (X.ldc2DoubleC hx hown (mvT hZ w) (g := mkF m pc L rest) rfl (hb hby hd))
theorem own_getF (X : Stand p l e R s m args below meth c T locs cells slots) (hx : p.tables.exec = Jvm.exec) (hby : c.code = B) (hZ : Z.Warmed39 s.vm) {own R0 O n d host : String} {index : Nat} (hown : s.vm.findClass own = some m.cls) (w : (Jvm.Cond.fieldLink own index R0 n d).before a0 Z = true ∨ (Jvm.Cond.fieldLinkNest own index R0 n d host).before a0 Z = true) (via : Via Z R0 O n d) (eT : T.heap = h) {a : Addr} {v : Value} (Ff : Fld Z h a O n d v) (hd : decode B pc = .ok (.getfield index, 3)) (hp : pc + 3 = pc') (k : ∀ T', Stand p l e R s m args below meth c T' locs cells slots → T'.heap = h → Gt p.tables e below F (T'.setTop (mkF m pc' L (v :: rest)))) : Gt p.tables e below F (T.setTop (mkF m pc L (.ref a :: rest))) := by
  subst hp; obtain ⟨T', X', e', st⟩ := getF X hx hZ hown w via eT Ff (g := mkF m pc L (.ref a :: rest)) rfl rfl (hb hby hd); exact (k T' X' e').go st
theorem own_getS (X : Stand p l e R s m args below meth c T locs cells slots) (hx : p.tables.exec = Jvm.exec) (hby : c.code = B) (hZ : Z.Warmed39 s.vm) {own R0 O n d host : String} {index : Nat} (hown : s.vm.findClass own = some m.cls) (w : (Jvm.Cond.fieldLink own index R0 n d).before a0 Z = true ∨ (Jvm.Cond.fieldLinkNest own index R0 n d host).before a0 Z = true) (via : Via Z R0 O n d) (eT : T.heap = h) {v : Value} (Ff : Sta Z h O n d v) (hd : decode B pc = .ok (.getstatic index, 3)) (hp : pc + 3 = pc') (k : ∀ T', Stand p l e R s m args below meth c T' locs cells slots → T'.heap = h → Gt p.tables e below F (T'.setTop (mkF m pc' L (v :: rest)))) : Gt p.tables e below F (T.setTop (mkF m pc L rest)) := by
  subst hp; obtain ⟨T', X', e', st⟩ := getS2 X hx hZ hown w via eT Ff (g := mkF m pc L rest) rfl (hb hby hd); exact (k T' X' e').go st
theorem own_putF (X : Stand p l e R s m args below meth c T locs cells slots) (hx : p.tables.exec = Jvm.exec) (hby : c.code = B) (hZ : Z.Warmed39 s.vm) {own R0 O n d host C : String} {index kk : Nat} {ty : FieldType} (hown : s.vm.findClass own = some m.cls) (w : (Jvm.Cond.fieldLink own index R0 n d).before a0 Z = true ∨ (Jvm.Cond.fieldLinkNest own index R0 n d host).before a0 Z = true) (via : Via Z R0 O n d) (eT : T.heap = h) {a : Addr} {v old : Value} (Ff : Fld Z h a O n d old) (E : Exa Z h a C) (La : (Jvm.Cond.lays C O n d).before a0 Z = true ∨ ((Jvm.Cond.laysFinal C O n d).before a0 Z = true ∧ own = O ∧ meth.name = "<init>")) (wi : (Jvm.Cond.instantiable C kk).before a0 Z = true) (hty : parseFieldDescriptor d = some ty) (hn : narrow ty v = v) (hf : fits ty v = true) (hd : decode B pc = .ok (.putfield index, 3)) (hp : pc + 3 = pc') (k : ∀ T' h', Stand p l e R s m args below meth c T' (locs ++ [⟨a, Jvm.RoadKit.slotOf Z O n d⟩]) cells slots → T'.heap = h' → Wr h h' a (Jvm.RoadKit.slotOf Z O n d) v → Gt p.tables e below F (T'.setTop (mkF m pc' L rest))) : Gt p.tables e below F (T.setTop (mkF m pc L (v :: .ref a :: rest))) := by
  subst hp; obtain ⟨T', h', X', e', W, st⟩ := putF X hx hZ hown w via eT Ff E La wi hty hn hf (g := mkF m pc L (v :: .ref a :: rest)) rfl rfl (hb hby hd); exact (k T' h' X' e' W).go st
theorem own_newO (X : Stand p l e R s m args below meth c T locs cells slots) (hx : p.tables.exec = Jvm.exec) (hby : c.code = B) (hZ : Z.Warmed39 s.vm) {own C : String} {index n : Nat} (hown : s.vm.findClass own = some m.cls) (w : (Jvm.Cond.classLink own index C).before a0 Z = true) (wi : (Jvm.Cond.instantiable C n).before a0 Z = true) (wz : (Jvm.Cond.initialized C).before a0 Z = true) (eT : T.heap = h) (hd : decode B pc = .ok (.new index, 3)) (hp : pc + 3 = pc') (hc : cells + 1 ≤ R.cells) (hl : slots + n ≤ R.slots) (k : ∀ T' h' a, Stand p l e R s m args below meth c T' locs (cells + 1) (slots + n) → T'.heap = h' → Ext h h' → h.size = a → Exa Z h' a C → (∀ {O nm d : String} {ty : FieldType}, Laid Z a0 C O nm d → parseFieldDescriptor d = some ty → Fld Z h' a O nm d (defaultValue ty)) → Gt p.tables e below F (T'.setTop (mkF m pc' L (.ref a :: rest)))) : Gt p.tables e below F (T.setTop (mkF m pc L rest)) := by
  subst hp; obtain ⟨T', h', X', e', E', A', D', -, st⟩ := newO X hx hZ hown w wi wz eT (g := mkF m pc L rest) rfl (hb hby hd) hc hl; exact (k T' h' _ X' e' E' rfl A' D').go st
theorem own_initO (X : Stand p l e R s m args below meth c T locs cells slots) (hx : p.tables.exec = Jvm.exec) (hby : c.code = B) (hZ : Z.Warmed39 s.vm) {own : String} {idx : Nat} (hown : s.vm.findClass own = some m.cls) (w1 : (Jvm.Cond.methodLink own idx Lib.objectInit).before a0 Z = true) (w2 : (Jvm.Cond.instanceMethod Lib.objectInit).before a0 Z = true) (w3 : (Jvm.Cond.code Lib.objectInit ⟨#[0xb1]⟩ 1 none).before a0 Z = true) (eT : T.heap = h) (hsize : L.size = c.maxLocals) {a : Addr} (hd : decode B pc = .ok (.invokespecial idx, 3)) (hp : pc + 3 = pc') (hf : 1 ≤ R.frames) {W : Nat} (hW : (rest.map fun v => v.category).sum ≤ W) (hl : W + 12 ≤ R.locals) (k : ∀ T', Stand p l e R s m args below meth c T' locs cells slots → T'.heap = h → Gt p.tables e below F (T'.setTop (mkF m pc' L rest))) : Gt p.tables e below F (T.setTop (mkF m pc L (.ref a :: rest))) := by
  subst hp; obtain ⟨T', X', e', st⟩ := initO X hx hZ hown w1 w2 w3 eT (g := mkF m pc L (.ref a :: rest)) rfl hsize rfl (hb hby hd) hf (W := W) (by show 2 * 0 + _ ≤ _; rw [Nat.mul_zero, Nat.zero_add]; exact hW) hl; exact (k T' X' e').go st
theorem own_special (X : Stand p l e R s m args below meth c T locs cells slots) (hx : p.tables.exec = Jvm.exec) (hby : c.code = B) (hZ : Z.Warmed39 s.vm) {own : String} {index : Nat} {y : MethodName} {bytes : ByteArray} {maxL : Nat} {ret : Option FieldType} {rm : Room} {as' : Array Value} {Q : Option Value → Heap → List Loc → Prop} (hy1 : y.name = "<init>") (hown : s.vm.findClass own = some m.cls) (w1 : (Jvm.Cond.methodLink own index y).before a0 Z = true) (w2 : (Jvm.Cond.instanceMethod y).before a0 Z = true) (hret : ret = none) (w3 : (Jvm.Cond.code y bytes maxL ret).before a0 Z = true) (w4 : (Jvm.Cond.initialized y.cls).before a0 Z = true) (hy : y.cls ≠ "java/lang/invoke/MethodHandle" ∧ y.cls ≠ "java/lang/invoke/VarHandle") (hM : MetFree l y (head1 [Jvm.Cond.code y bytes maxL ret] rm) (fun a U => a = as' ∧ Z.Warmed39 U.vm ∧ U.heap = h) (fun _ _ _ _ _ => True) (fun _ U o U' => ∃ v L, o = .returned v ∧ Q v U'.heap L ∧ FrameEnd U o U' L rm.cells rm.slots)) (eT : T.heap = h) (hsize : L.size = c.maxLocals) {a : Addr} {argsL : List Value} (has : as' = (.ref a :: argsL).toArray) (hlen : ∀ sig, parseMethodDescriptor y.desc = some sig → argsL.length = sig.parameters.length) {st : List Value} (hst : st = argsL.reverse ++ .ref a :: rest) (hd : decode B pc = .ok (.invokespecial index, 3)) (hp : pc + 3 = pc') (hf : rm.frames + 1 ≤ R.frames) {W : Nat} (hW : (rest.map fun v => v.category).sum ≤ W) (hl : W + (maxL + 11) + rm.locals ≤ R.locals) (hc : cells + rm.cells ≤ R.cells) (hs : slots + rm.slots ≤ R.slots) (k : ∀ T' h' L' v, Stand p l e R s m args below meth c T' (locs ++ L') (cells + rm.cells) (slots + rm.slots) → T'.heap = h' → Q v h' L' → Gt p.tables e below F (T'.setTop (mkF m pc' L (v.toList ++ rest)))) : Gt p.tables e below F (T.setTop (mkF m pc L st)) := by
  subst hp hret has hst
  obtain ⟨v, vm1, ⟨T', L1, k1, n1⟩, -, X', ⟨Lc, hQ, l1, l2, l3⟩, st⟩ := X.specialBack hx (y := y) hy1 hown (mvT hZ w1) (mvT hZ w2) (mvT hZ w3) hy (backOf (W := W) hM hZ w3 w4 hf hl) (g := mkF m pc L (argsL.reverse ++ .ref a :: rest)) rfl hsize (Steps.refl _) (a := a) (argsL := argsL) (rest := rest) hlen rfl (by show 2 * 0 + _ ≤ _; rw [Nat.mul_zero, Nat.zero_add]; exact hW) (hb hby hd) (fun _ _ => ⟨rfl, eT, hc, hs⟩)
  dsimp only [Pt.U, Pt.locs, Pt.cells, Pt.slots] at X' l1 l2 l3 st hQ
  subst l1 l2 l3
  exact (k T' _ Lc v X' rfl hQ).go fun t q => st.trans q
theorem own_virtual (X : Stand p l e R s m args below meth c T locs cells slots) (hx : p.tables.exec = Jvm.exec) (hby : c.code = B) (hZ : Z.Warmed39 s.vm) {own : String} {index : Nat} {y : MethodName} {bytes : ByteArray} {maxL : Nat} {ret : Option FieldType} {rm : Room} {as' : Array Value} {Q : Option Value → Heap → List Loc → Prop} {C : String} {y' : MethodName} (hown : s.vm.findClass own = some m.cls) (w1 : (Jvm.Cond.methodLink own index y').before a0 Z = true) (w2 : (Jvm.Cond.declares y').before a0 Z = true) (hnf : NotFace s y') (w5 : (Jvm.Cond.selects C y' y).before a0 Z = true) (w6 : (Jvm.Cond.instanceMethod y).before a0 Z = true) (w3 : (Jvm.Cond.code y bytes maxL ret).before a0 Z = true) (w4 : (Jvm.Cond.initialized y.cls).before a0 Z = true) (hy : y'.cls ≠ "java/lang/invoke/MethodHandle" ∧ y'.cls ≠ "java/lang/invoke/VarHandle") (hM : MetFree l y (head1 [Jvm.Cond.code y bytes maxL ret] rm) (fun a U => a = as' ∧ Z.Warmed39 U.vm ∧ U.heap = h) (fun _ _ _ _ _ => True) (fun _ U o U' => ∃ v L, o = .returned v ∧ Q v U'.heap L ∧ FrameEnd U o U' L rm.cells rm.slots)) (eT : T.heap = h) (hsize : L.size = c.maxLocals) {a : Addr} (E : Exa Z h a C) {argsL : List Value} (has : as' = (.ref a :: argsL).toArray) (hlen : ∀ sig, parseMethodDescriptor y'.desc = some sig → argsL.length = sig.parameters.length) {st : List Value} (hst : st = argsL.reverse ++ .ref a :: rest) (hd : decode B pc = .ok (.invokevirtual index, 3)) (hp : pc + 3 = pc') (hf : rm.frames + 1 ≤ R.frames) {W : Nat} (hW : (rest.map fun v => v.category).sum ≤ W) (hl : W + (maxL + 11) + rm.locals ≤ R.locals) (hc : cells + rm.cells ≤ R.cells) (hs : slots + rm.slots ≤ R.slots) (k : ∀ T' h' L' v, Stand p l e R s m args below meth c T' (locs ++ L') (cells + rm.cells) (slots + rm.slots) → T'.heap = h' → Q v h' L' → Gt p.tables e below F (T'.setTop (mkF m pc' L (v.toList ++ rest)))) : Gt p.tables e below F (T.setTop (mkF m pc L st)) := by
  subst hp has hst
  obtain ⟨cq, kq, qa, qb, qc⟩ := isOf hZ eT E
  obtain ⟨v, vm1, ⟨T', L1, k1, n1⟩, -, X', ⟨Lc, hQ, l1, l2, l3⟩, st⟩ := X.virtualBack hx (y := y') (z := y) hown (mvT hZ w1) (mvT hZ w2) hnf (mvT hZ w5) (mvT hZ w6) hy (backOf (W := W) hM hZ w3 w4 hf hl) qa qc (g := mkF m pc L (argsL.reverse ++ .ref a :: rest)) rfl hsize (Steps.refl _) (argsL := argsL) (rest := rest) hlen rfl (by show 2 * 0 + _ ≤ _; rw [Nat.mul_zero, Nat.zero_add]; exact hW) (hb hby hd) (fun _ _ => ⟨rfl, eT, hc, hs⟩)
  dsimp only [Pt.U, Pt.locs, Pt.cells, Pt.slots] at X' l1 l2 l3 st hQ
  subst l1 l2 l3
  exact (k T' _ Lc v X' rfl hQ).go fun t q => st.trans q
theorem own_static (X : Stand p l e R s m args below meth c T locs cells slots) (hx : p.tables.exec = Jvm.exec) (hby : c.code = B) (hZ : Z.Warmed39 s.vm) {own : String} {index : Nat} {y : MethodName} {bytes : ByteArray} {maxL : Nat} {ret : Option FieldType} {rm : Room} {as' : Array Value} {Q : Option Value → Heap → List Loc → Prop} (hown : s.vm.findClass own = some m.cls) (w1 : (Jvm.Cond.methodLink own index y).before a0 Z = true) (w2 : (Jvm.Cond.static y).before a0 Z = true) (w3 : (Jvm.Cond.code y bytes maxL ret).before a0 Z = true) (w4 : (Jvm.Cond.initialized y.cls).before a0 Z = true) (hy : y.cls ≠ "java/lang/invoke/MethodHandle" ∧ y.cls ≠ "java/lang/invoke/VarHandle") (hM : MetFree l y (head1 [Jvm.Cond.code y bytes maxL ret] rm) (fun a U => a = as' ∧ Z.Warmed39 U.vm ∧ U.heap = h) (fun _ _ _ _ _ => True) (fun _ U o U' => ∃ v L, o = .returned v ∧ Q v U'.heap L ∧ FrameEnd U o U' L rm.cells rm.slots)) (eT : T.heap = h) (hsize : L.size = c.maxLocals) {argsL : List Value} (has : as' = argsL.toArray) (hlen : ∀ sig, parseMethodDescriptor y.desc = some sig → argsL.length = sig.parameters.length) {st : List Value} (hst : st = argsL.reverse ++ rest) (hd : decode B pc = .ok (.invokestatic index, 3)) (hp : pc + 3 = pc') (hf : rm.frames + 1 ≤ R.frames) {W : Nat} (hW : (rest.map fun v => v.category).sum ≤ W) (hl : W + (maxL + 11) + rm.locals ≤ R.locals) (hc : cells + rm.cells ≤ R.cells) (hs : slots + rm.slots ≤ R.slots) (k : ∀ T' h' L' v, Stand p l e R s m args below meth c T' (locs ++ L') (cells + rm.cells) (slots + rm.slots) → T'.heap = h' → Q v h' L' → Gt p.tables e below F (T'.setTop (mkF m pc' L (v.toList ++ rest)))) : Gt p.tables e below F (T.setTop (mkF m pc L st)) := by
  subst hp has hst
  obtain ⟨v, vm1, ⟨T', L1, k1, n1⟩, -, X', ⟨Lc, hQ, l1, l2, l3⟩, st⟩ := Jvm.LawKit.callS X hx (y := y) hown (mvT hZ w1) (mvT hZ w2) (mvT hZ w4) (mvT hZ w3) hy (backOf (W := W) hM hZ w3 w4 hf hl) (g := mkF m pc L (argsL.reverse ++ rest)) rfl hsize (argsL := argsL) (rest := rest) hlen rfl (by show 2 * 0 + _ ≤ _; rw [Nat.mul_zero, Nat.zero_add]; exact hW) (hb hby hd) (fun _ _ => ⟨rfl, eT, hc, hs⟩)
  dsimp only [Pt.U, Pt.locs, Pt.cells, Pt.slots] at X' l1 l2 l3 st hQ
  subst l1 l2 l3
  exact (k T' _ Lc v X' rfl hQ).go fun t q => st _ q
theorem own_private (X : Stand p l e R s m args below meth c T locs cells slots) (hx : p.tables.exec = Jvm.exec) (hby : c.code = B) (hZ : Z.Warmed39 s.vm) {own : String} {index : Nat} {y : MethodName} {bytes : ByteArray} {maxL : Nat} {ret : Option FieldType} {rm : Room} {as' : Array Value} {Q : Option Value → Heap → List Loc → Prop} (hown : s.vm.findClass own = some m.cls) (w1 : (Jvm.Cond.methodLink own index y).before a0 Z = true) (w2 : (Jvm.Cond.instanceMethod y).before a0 Z = true) {ni : Nat} (w5 : (Jvm.Cond.instantiable y.cls ni).before a0 Z = true) (w6 : (Jvm.Cond.privateMethod y).before a0 Z = true) (w3 : (Jvm.Cond.code y bytes maxL ret).before a0 Z = true) (w4 : (Jvm.Cond.initialized y.cls).before a0 Z = true) (hy : y.cls ≠ "java/lang/invoke/MethodHandle" ∧ y.cls ≠ "java/lang/invoke/VarHandle") (hM : MetFree l y (head1 [Jvm.Cond.code y bytes maxL ret] rm) (fun a U => a = as' ∧ Z.Warmed39 U.vm ∧ U.heap = h) (fun _ _ _ _ _ => True) (fun _ U o U' => ∃ v L, o = .returned v ∧ Q v U'.heap L ∧ FrameEnd U o U' L rm.cells rm.slots)) (eT : T.heap = h) (hsize : L.size = c.maxLocals) {a : Addr} (E : Exa Z h a y.cls) {argsL : List Value} (has : as' = (.ref a :: argsL).toArray) (hlen : ∀ sig, parseMethodDescriptor y.desc = some sig → argsL.length = sig.parameters.length) {st : List Value} (hst : st = argsL.reverse ++ .ref a :: rest) (hd : decode B pc = .ok (.invokevirtual index, 3)) (hp : pc + 3 = pc') (hf : rm.frames + 1 ≤ R.frames) {W : Nat} (hW : (rest.map fun v => v.category).sum ≤ W) (hl : W + (maxL + 11) + rm.locals ≤ R.locals) (hc : cells + rm.cells ≤ R.cells) (hs : slots + rm.slots ≤ R.slots) (k : ∀ T' h' L' v, Stand p l e R s m args below meth c T' (locs ++ L') (cells + rm.cells) (slots + rm.slots) → T'.heap = h' → Q v h' L' → Gt p.tables e below F (T'.setTop (mkF m pc' L (v.toList ++ rest)))) : Gt p.tables e below F (T.setTop (mkF m pc L st)) := by
  subst hp has hst
  obtain ⟨cq, q1, q2⟩ := E.cell
  obtain ⟨cI, kI, i1, i2, -, i3, -⟩ := Cond.instantiable_spec (mv (s := s) (args := args) hZ w5)
  have hpr := Cond.privateMethod_at (mvP (s := s) hZ w6 (args := #[]))
  have hsel := Jvm.Stand.selects_self_of_private i1 i2 (Bool.or_eq_false_iff.mp i3).1 hpr (mvT (s := s) (args := args) hZ w2) hy
  obtain ⟨v, vm1, ⟨T', L1, k1, n1⟩, -, X', ⟨Lc, hQ, l1, l2, l3⟩, st⟩ := X.privateBack hx (y := y) hown (mvT hZ w1) (mvT hZ w2) hsel hpr (mvT hZ w3) hy (backOf (W := W) hM hZ w3 w4 hf hl) (g := mkF m pc L (argsL.reverse ++ .ref a :: rest)) rfl hsize (Steps.refl _) (a := a) (by rw [eT]; exact q1) q2 (argsL := argsL) (rest := rest) hlen rfl (by show 2 * 0 + _ ≤ _; rw [Nat.mul_zero, Nat.zero_add]; exact hW) (hb hby hd) (fun _ _ => ⟨rfl, eT, hc, hs⟩)
  dsimp only [Pt.U, Pt.locs, Pt.cells, Pt.slots] at X' l1 l2 l3 st hQ
  subst l1 l2 l3
  exact (k T' _ Lc v X' rfl hQ).go fun t q => st.trans q
theorem own_retV (X : Stand p l e R s m args below meth c T locs cells slots) (hx : p.tables.exec = Jvm.exec) (hby : c.code = B) (hlocks : meth.locks = false) {Q : Option Value → Heap → List Loc → Prop} {kc ks : Nat} (hret : meth.sig.returnType = none) (hd : decode B pc = .ok (.return_, 1)) (hc : cells ≤ kc) (hs : slots ≤ ks) (eT : T.heap = h) (hq : Q none h locs) : Gt p.tables e below (fun o U' => ∃ v Lc, o = .returned v ∧ Q v U'.heap Lc ∧ FrameEnd s o U' Lc kc ks) (T.setTop (mkF m pc L [])) := by
  subst eT
  obtain ⟨fs, hr, hrun, hended, hW, hsame⟩ := X.leave (v := none) (fun _ => rfl) hlocks
  exact ⟨_, _, X.returnOut hx hret (hb hby hd) hr, hrun, hended, _, _, rfl, hq, ⟨_, rfl⟩, hW, hsame.mono hc hs⟩
theorem own_retI (X : Stand p l e R s m args below meth c T locs cells slots) (hx : p.tables.exec = Jvm.exec) (hby : c.code = B) (hlocks : meth.locks = false) {Q : Option Value → Heap → List Loc → Prop} {kc ks : Nat} (hret : meth.sig.returnType = some .int) {z : Int32} (hd : decode B pc = .ok (.ireturn, 1)) (hc : cells ≤ kc) (hs : slots ≤ ks) (eT : T.heap = h) (hq : Q (some (.int z)) h locs) : Gt p.tables e below (fun o U' => ∃ v Lc, o = .returned v ∧ Q v U'.heap Lc ∧ FrameEnd s o U' Lc kc ks) (T.setTop (mkF m pc L (.int z :: rest))) := by
  subst eT
  obtain ⟨fs, hr, hrun, hended, hW, hsame⟩ := X.leave (v := (some (.int z))) (fun h => by rw [hret] at h; cases h) hlocks
  exact ⟨_, _, retOut X hx hret rfl (Or.inl ⟨rfl, Or.inl rfl, z, rfl⟩) (hb hby hd) hr, hrun, hended, _, _, rfl, hq, ⟨_, rfl⟩, hW, hsame.mono hc hs⟩
theorem own_retL (X : Stand p l e R s m args below meth c T locs cells slots) (hx : p.tables.exec = Jvm.exec) (hby : c.code = B) (hlocks : meth.locks = false) {Q : Option Value → Heap → List Loc → Prop} {kc ks : Nat} (hret : meth.sig.returnType = some .long) {z : Int64} (hd : decode B pc = .ok (.lreturn, 1)) (hc : cells ≤ kc) (hs : slots ≤ ks) (eT : T.heap = h) (hq : Q (some (.long z)) h locs) : Gt p.tables e below (fun o U' => ∃ v Lc, o = .returned v ∧ Q v U'.heap Lc ∧ FrameEnd s o U' Lc kc ks) (T.setTop (mkF m pc L (.long z :: rest))) := by
  subst eT
  obtain ⟨fs, hr, hrun, hended, hW, hsame⟩ := X.leave (v := (some (.long z))) (fun h => by rw [hret] at h; cases h) hlocks
  exact ⟨_, _, retOut X hx hret rfl (Or.inr (Or.inl ⟨rfl, rfl, z, rfl⟩)) (hb hby hd) hr, hrun, hended, _, _, rfl, hq, ⟨_, rfl⟩, hW, hsame.mono hc hs⟩
theorem own_retD (X : Stand p l e R s m args below meth c T locs cells slots) (hx : p.tables.exec = Jvm.exec) (hby : c.code = B) (hlocks : meth.locks = false) {Q : Option Value → Heap → List Loc → Prop} {kc ks : Nat} (hret : meth.sig.returnType = some .double) {z : UInt64} (hd : decode B pc = .ok (.dreturn, 1)) (hc : cells ≤ kc) (hs : slots ≤ ks) (eT : T.heap = h) (hq : Q (some (.double z)) h locs) : Gt p.tables e below (fun o U' => ∃ v Lc, o = .returned v ∧ Q v U'.heap Lc ∧ FrameEnd s o U' Lc kc ks) (T.setTop (mkF m pc L (.double z :: rest))) := by
  subst eT
  obtain ⟨fs, hr, hrun, hended, hW, hsame⟩ := X.leave (v := (some (.double z))) (fun h => by rw [hret] at h; cases h) hlocks
  exact ⟨_, _, retOut X hx hret rfl (Or.inr (Or.inr (Or.inl ⟨rfl, rfl, z, rfl⟩))) (hb hby hd) hr, hrun, hended, _, _, rfl, hq, ⟨_, rfl⟩, hW, hsame.mono hc hs⟩
theorem own_retZ (X : Stand p l e R s m args below meth c T locs cells slots) (hx : p.tables.exec = Jvm.exec) (hby : c.code = B) (hlocks : meth.locks = false) {Q : Option Value → Heap → List Loc → Prop} {kc ks : Nat} (hret : meth.sig.returnType = some .boolean) {z : Int32} (hz : z = 0 ∨ z = 1) (hd : decode B pc = .ok (.ireturn, 1)) (hc : cells ≤ kc) (hs : slots ≤ ks) (eT : T.heap = h) (hq : Q (some (.int z)) h locs) : Gt p.tables e below (fun o U' => ∃ v Lc, o = .returned v ∧ Q v U'.heap Lc ∧ FrameEnd s o U' Lc kc ks) (T.setTop (mkF m pc L (.int z :: rest))) := by
  subst eT
  obtain ⟨fs, hr, hrun, hended, hW, hsame⟩ := X.leave (v := (some (.int z))) (fun h => by rw [hret] at h; cases h) hlocks
  exact ⟨_, _, retOut X hx hret (by rcases hz with rfl | rfl <;> rfl) (Or.inl ⟨rfl, Or.inr (Or.inl rfl), z, rfl⟩) (hb hby hd) hr, hrun, hended, _, _, rfl, hq, ⟨_, rfl⟩, hW, hsame.mono hc hs⟩
theorem own_retA (X : Stand p l e R s m args below meth c T locs cells slots) (hx : p.tables.exec = Jvm.exec) (hby : c.code = B) (hlocks : meth.locks = false) {Q : Option Value → Heap → List Loc → Prop} {kc ks : Nat} {t : FieldType} (hret : meth.sig.returnType = some t) (ht : t.isReference = true) {z : Value} (hz : z.isRef = true) (hd : decode B pc = .ok (.areturn, 1)) (hc : cells ≤ kc) (hs : slots ≤ ks) (eT : T.heap = h) (hq : Q (some z) h locs) : Gt p.tables e below (fun o U' => ∃ v Lc, o = .returned v ∧ Q v U'.heap Lc ∧ FrameEnd s o U' Lc kc ks) (T.setTop (mkF m pc L (z :: rest))) := by
  subst eT
  obtain ⟨fs, hr, hrun, hended, hW, hsame⟩ := X.leave (v := (some z)) (fun h => by rw [hret] at h; cases h) hlocks
  exact ⟨_, _, retOut X hx hret (by rcases ref_cases hz with rfl | ⟨a, rfl⟩ <;> cases t <;> simp_all [narrow, FieldType.isReference]) (Or.inr (Or.inr (Or.inr (Or.inr ⟨rfl, ht, hz⟩)))) (hb hby hd) hr, hrun, hended, _, _, rfl, hq, ⟨_, rfl⟩, hW, hsame.mono hc hs⟩
end OwnG
section OwnA
variable {p : Program} {l : Launch} {e : Env} {R : Room} {s : State} {m : MethodId} {args : Array Value} {below : List Frame} {meth : Method} {c : Code} {T : State} {locs : List Loc} {cells slots : Nat} {Z : State} {a0 : Array Value} {h h' : Heap} {B : ByteArray} {pc pc' : Nat} {L L' : Array Slot} {rest : List Value} {F : Outcome → State → Prop} {a b : Addr} {ty : FieldType} {vs : List Value} {P : ClassId → Prop} {sl : Nat} {v : Value} {ws : List Addr}
def tr (_ : ClassId) : Prop := True
/-- an array at a of kind ty whose components are the list vs, of a class with P -/
def Ary (P : ClassId → Prop) (Z : State) (h : Heap) (a : Addr) (ty : FieldType) (vs : List Value) : Prop := ∃ c : Cell, Arr Z h a c ty ∧ P c.cls ∧ c.slots.toList = vs ∧ vs.length < 2 ^ 31
theorem Ary.lt (V : Ary P Z h a ty vs) : a < h.size := by obtain ⟨c, A, -⟩ := V; exact A.lt
theorem Ary.ext (V : Ary P Z h a ty vs) (E : Ext h h') : Ary P Z h' a ty vs := by obtain ⟨c, A, r⟩ := V; exact ⟨c, A.ext E, r⟩
theorem Ary.other (V : Ary P Z h b ty vs) (W : Wr h h' a sl v) (q : b ≠ a) : Ary P Z h' b ty vs := by obtain ⟨c, A, r⟩ := V; exact ⟨c, A.other W q, r⟩
theorem Ary.keep (V : Ary P Z h a ty vs) (K : Keep h h' ws) (q : a ∉ ws) : Ary P Z h' a ty vs := by obtain ⟨c, A, r⟩ := V; exact ⟨c, ⟨K.2.1 a c A.1 q, A.2⟩, r⟩
theorem Ary.set (V : Ary P Z h a ty vs) (W : Wr h h' a sl v) : Ary P Z h' a ty (vs.set sl v) := by
  obtain ⟨c, A, q, r, t⟩ := V
  refine ⟨_, A.same W, q, ?_, by rw [List.length_set]; exact t⟩
  show (c.slots.setIfInBounds sl v).toList = _
  rw [Array.toList_setIfInBounds, r]
theorem Ary.size {cl : Cell} (r : cl.slots.toList = vs) : cl.slots.size = vs.length := by rw [← r]; simp
theorem Ary.inb {cl : Cell} {i : Int32} (r : cl.slots.toList = vs) (hi : ¬ i < 0) (hl : i.toNatClampNeg < vs.length) : ¬ (i < 0 ∨ cl.slots.size ≤ i.toNatClampNeg) := by
  rw [Ary.size r]; intro q; rcases q with q | q
  · exact hi q
  · omega
theorem Ary.at {cl : Cell} {i : Nat} (r : cl.slots.toList = vs) (hg : vs[i]? = some v) : cl.slots[i]? = some v := by
  rw [← hg, ← r]; simp
theorem own_alen (X : Stand p l e R s m args below meth c T locs cells slots) (hx : p.tables.exec = Jvm.exec) (hby : c.code = B) (hZ : Z.Warmed39 s.vm) (eT : T.heap = h) (V : Ary P Z h a ty vs) {z : Int32} (hz : vs.length.toInt32 = z) (hd : decode B pc = .ok (.arraylength, 1)) (hp : pc + 1 = pc') (k : Gt p.tables e below F (T.setTop (mkF m pc' L (.int z :: rest)))) : Gt p.tables e below F (T.setTop (mkF m pc L (.ref a :: rest))) := by
  subst hp hz
  obtain ⟨cl, A, -, r, t⟩ := V
  refine k.go fun t q => X.arraylength hx (by rw [eT]; exact A.1) (State.isArrayOf_alike hZ.alike A.2.1) (g := mkF m pc L (.ref a :: rest)) rfl rfl (hb hby hd) _ ?_
  rw [Ary.size r]; exact q
theorem own_iaload (X : Stand p l e R s m args below meth c T locs cells slots) (hx : p.tables.exec = Jvm.exec) (hby : c.code = B) (hZ : Z.Warmed39 s.vm) (eT : T.heap = h) (V : Ary P Z h a .int vs) {i : Int32} (hi : ¬ i < 0) (hg : vs[i.toNatClampNeg]? = some v) (hd : decode B pc = .ok (.iaload, 1)) (hp : pc + 1 = pc') (k : Gt p.tables e below F (T.setTop (mkF m pc' L (v :: rest)))) : Gt p.tables e below F (T.setTop (mkF m pc L (.int i :: .ref a :: rest))) := by
  subst hp
  obtain ⟨cl, A, -, r, t⟩ := V
  exact k.go fun t q => X.iaload hx (by rw [eT]; exact A.1) (State.isArrayOf_alike hZ.alike A.2.1) A.2.2 (Ary.inb r hi (List.getElem?_eq_some_iff.mp hg).1) (Ary.at r hg) (g := mkF m pc L (.int i :: .ref a :: rest)) rfl rfl (hb hby hd) _ q
theorem own_laload (X : Stand p l e R s m args below meth c T locs cells slots) (hx : p.tables.exec = Jvm.exec) (hby : c.code = B) (hZ : Z.Warmed39 s.vm) (eT : T.heap = h) (V : Ary P Z h a .long vs) {i : Int32} (hi : ¬ i < 0) (hg : vs[i.toNatClampNeg]? = some v) (hd : decode B pc = .ok (.laload, 1)) (hp : pc + 1 = pc') (k : Gt p.tables e below F (T.setTop (mkF m pc' L (v :: rest)))) : Gt p.tables e below F (T.setTop (mkF m pc L (.int i :: .ref a :: rest))) := by
  subst hp
  obtain ⟨cl, A, -, r, t⟩ := V
  exact k.go fun t q => X.laload hx (by rw [eT]; exact A.1) (State.isArrayOf_alike hZ.alike A.2.1) A.2.2 (Ary.inb r hi (List.getElem?_eq_some_iff.mp hg).1) (Ary.at r hg) (g := mkF m pc L (.int i :: .ref a :: rest)) rfl rfl (hb hby hd) _ q
theorem own_daload (X : Stand p l e R s m args below meth c T locs cells slots) (hx : p.tables.exec = Jvm.exec) (hby : c.code = B) (hZ : Z.Warmed39 s.vm) (eT : T.heap = h) (V : Ary P Z h a .double vs) {i : Int32} (hi : ¬ i < 0) (hg : vs[i.toNatClampNeg]? = some v) (hd : decode B pc = .ok (.daload, 1)) (hp : pc + 1 = pc') (k : Gt p.tables e below F (T.setTop (mkF m pc' L (v :: rest)))) : Gt p.tables e below F (T.setTop (mkF m pc L (.int i :: .ref a :: rest))) := by
  subst hp
  obtain ⟨cl, A, -, r, t⟩ := V
  exact k.go fun t q => X.daload hx (by rw [eT]; exact A.1) (State.isArrayOf_alike hZ.alike A.2.1) A.2.2 (Ary.inb r hi (List.getElem?_eq_some_iff.mp hg).1) (Ary.at r hg) (g := mkF m pc L (.int i :: .ref a :: rest)) rfl rfl (hb hby hd) _ q
theorem own_aaload (X : Stand p l e R s m args below meth c T locs cells slots) (hx : p.tables.exec = Jvm.exec) (hby : c.code = B) (hZ : Z.Warmed39 s.vm) (eT : T.heap = h) (V : Ary P Z h a ty vs) (hty : ty.isReference = true) {i : Int32} (hi : ¬ i < 0) (hg : vs[i.toNatClampNeg]? = some v) (hd : decode B pc = .ok (.aaload, 1)) (hp : pc + 1 = pc') (k : Gt p.tables e below F (T.setTop (mkF m pc' L (v :: rest)))) : Gt p.tables e below F (T.setTop (mkF m pc L (.int i :: .ref a :: rest))) := by
  subst hp
  obtain ⟨cl, A, -, r, t⟩ := V
  exact k.go fun t q => X.aaload hx (by rw [eT]; exact A.1) (State.isArrayOf_alike hZ.alike A.2.1) hty A.2.2 (Ary.inb r hi (List.getElem?_eq_some_iff.mp hg).1) (Ary.at r hg) (g := mkF m pc L (.int i :: .ref a :: rest)) rfl rfl (hb hby hd) _ q
theorem own_iastore (X : Stand p l e R s m args below meth c T locs cells slots) (hx : p.tables.exec = Jvm.exec) (hby : c.code = B) (hZ : Z.Warmed39 s.vm) (eT : T.heap = h) (V : Ary P Z h a .int vs) {i x : Int32} {n : Nat} (hi : ¬ i < 0) (hn : i.toNatClampNeg = n) (hl : n < vs.length) (hd : decode B pc = .ok (.iastore, 1)) (hp : pc + 1 = pc') (k : ∀ T' h', Stand p l e R s m args below meth c T' (locs ++ [⟨a, n⟩]) cells slots → T'.heap = h' → Wr h h' a n (.int x) → Gt p.tables e below F (T'.setTop (mkF m pc' L rest))) : Gt p.tables e below F (T.setTop (mkF m pc L (.int x :: .int i :: .ref a :: rest))) := by
  subst hp hn
  obtain ⟨cl, A, -, r, t⟩ := V
  obtain ⟨T', h', X', e', W, st⟩ := stI X hx hZ eT A (Ary.inb r hi hl) (g := mkF m pc L (.int x :: .int i :: .ref a :: rest)) rfl rfl (hb hby hd)
  exact (k T' h' X' e' W).go st
theorem own_lastore (X : Stand p l e R s m args below meth c T locs cells slots) (hx : p.tables.exec = Jvm.exec) (hby : c.code = B) (hZ : Z.Warmed39 s.vm) (eT : T.heap = h) (V : Ary P Z h a .long vs) {i : Int32} {x : Int64} {n : Nat} (hi : ¬ i < 0) (hn : i.toNatClampNeg = n) (hl : n < vs.length) (hd : decode B pc = .ok (.lastore, 1)) (hp : pc + 1 = pc') (k : ∀ T' h', Stand p l e R s m args below meth c T' (locs ++ [⟨a, n⟩]) cells slots → T'.heap = h' → Wr h h' a n (.long x) → Gt p.tables e below F (T'.setTop (mkF m pc' L rest))) : Gt p.tables e below F (T.setTop (mkF m pc L (.long x :: .int i :: .ref a :: rest))) := by
  subst hp hn
  obtain ⟨cl, A, -, r, t⟩ := V
  obtain ⟨T', h', X', e', W, st⟩ := stJ X hx hZ eT A (Ary.inb r hi hl) (g := mkF m pc L (.long x :: .int i :: .ref a :: rest)) rfl rfl (hb hby hd)
  exact (k T' h' X' e' W).go st
theorem own_dastore (X : Stand p l e R s m args below meth c T locs cells slots) (hx : p.tables.exec = Jvm.exec) (hby : c.code = B) (hZ : Z.Warmed39 s.vm) (eT : T.heap = h) (V : Ary P Z h a .double vs) {i : Int32} {x : UInt64} {n : Nat} (hi : ¬ i < 0) (hn : i.toNatClampNeg = n) (hl : n < vs.length) (hd : decode B pc = .ok (.dastore, 1)) (hp : pc + 1 = pc') (k : ∀ T' h', Stand p l e R s m args below meth c T' (locs ++ [⟨a, n⟩]) cells slots → T'.heap = h' → Wr h h' a n (.double x) → Gt p.tables e below F (T'.setTop (mkF m pc' L rest))) : Gt p.tables e below F (T.setTop (mkF m pc L (.double x :: .int i :: .ref a :: rest))) := by
  subst hp hn
  obtain ⟨cl, A, -, r, t⟩ := V
  obtain ⟨T', h', X', e', W, st⟩ := stD X hx hZ eT A (Ary.inb r hi hl) (g := mkF m pc L (.double x :: .int i :: .ref a :: rest)) rfl rfl (hb hby hd)
  exact (k T' h' X' e' W).go st
/-- what lies in it: an array class over C -/
def ovA (Z : State) (ty : FieldType) (C : String) (k : ClassId) : Prop := OvrA Z k ty C
def ovO (Z : State) (C : String) (k : ClassId) : Prop := Ovr Z k C
theorem own_aastoreA (X : Stand p l e R s m args below meth c T locs cells slots) (hx : p.tables.exec = Jvm.exec) (hby : c.code = B) (hZ : Z.Warmed39 s.vm) (eT : T.heap = h) {C : String} (V : Ary (ovA Z ty C) Z h a (.array ty) vs) {i : Int32} {x : Addr} {n : Nat} (E : Exa Z h x C) (hi : ¬ i < 0) (hn : i.toNatClampNeg = n) (hl : n < vs.length) (hd : decode B pc = .ok (.aastore, 1)) (hp : pc + 1 = pc') (k : ∀ T' h', Stand p l e R s m args below meth c T' (locs ++ [⟨a, n⟩]) cells slots → T'.heap = h' → Wr h h' a n (.ref x) → Gt p.tables e below F (T'.setTop (mkF m pc' L rest))) : Gt p.tables e below F (T.setTop (mkF m pc L (.ref x :: .int i :: .ref a :: rest))) := by
  subst hp hn
  obtain ⟨cl, A, O, r, t⟩ := V
  obtain ⟨T', h', X', e', W, st⟩ := stR X hx hZ eT A (Ary.inb r hi hl) rfl (Sto.ofVA A rfl O (Ins.self E)) (g := mkF m pc L (.ref x :: .int i :: .ref a :: rest)) rfl rfl (hb hby hd)
  exact (k T' h' X' e' W).go st
theorem own_aastoreO (X : Stand p l e R s m args below meth c T locs cells slots) (hx : p.tables.exec = Jvm.exec) (hby : c.code = B) (hZ : Z.Warmed39 s.vm) (eT : T.heap = h) {C : String} (V : Ary (ovO Z C) Z h a (.object C) vs) {i : Int32} {x : Addr} {n : Nat} (E : Exa Z h x C) (hi : ¬ i < 0) (hn : i.toNatClampNeg = n) (hl : n < vs.length) (hd : decode B pc = .ok (.aastore, 1)) (hp : pc + 1 = pc') (k : ∀ T' h', Stand p l e R s m args below meth c T' (locs ++ [⟨a, n⟩]) cells slots → T'.heap = h' → Wr h h' a n (.ref x) → Gt p.tables e below F (T'.setTop (mkF m pc' L rest))) : Gt p.tables e below F (T.setTop (mkF m pc L (.ref x :: .int i :: .ref a :: rest))) := by
  subst hp hn
  obtain ⟨cl, A, O, r, t⟩ := V
  obtain ⟨T', h', X', e', W, st⟩ := stR X hx hZ eT A (Ary.inb r hi hl) rfl (Sto.of A O (Ins.self E)) (g := mkF m pc L (.ref x :: .int i :: .ref a :: rest)) rfl rfl (hb hby hd)
  exact (k T' h' X' e' W).go st
theorem own_newP (X : Stand p l e R s m args below meth c T locs cells slots) (hx : p.tables.exec = Jvm.exec) (hby : c.code = B) (hZ : Z.Warmed39 s.vm) {aty : ArrayType} (w : (Jvm.Cond.arrayClass (newarray.typeOf aty)).before a0 Z = true) (eT : T.heap = h) (hd : decode B pc = .ok (.newarray aty, 2)) (hp : pc + 2 = pc') {n : Int32} (hn : ¬ n < 0) {N : Nat} (hN : n.toNatClampNeg = N) {cap : Nat} (hcap : N ≤ cap) (hbb : cap * 8 ≤ 536870912) (hc : cells + 1 ≤ R.cells) (hl : slots + cap ≤ R.slots) {ad : String} (had : "[" ++ (newarray.typeOf aty).toString = ad)
    (k : ∀ T' h' a, Stand p l e R s m args below meth c T' locs (cells + 1) (slots + cap) → T'.heap = h' → Ext h h' → h.size = a → Exa Z h' a ad → Ary tr Z h' a (newarray.typeOf aty) (List.replicate N (defaultValue (newarray.typeOf aty))) → Gt p.tables e below F (T'.setTop (mkF m pc' L (.ref a :: rest)))) : Gt p.tables e below F (T.setTop (mkF m pc L (.int n :: rest))) := by
  subst hp hN
  obtain ⟨T', h', cA, X', e', E', A', Ex, st⟩ := newPE X hx hZ w eT (g := mkF m pc L (.int n :: rest)) rfl (hb hby hd) rfl hn hcap hbb hc hl had
  exact (k T' h' _ X' e' E' rfl Ex ⟨_, A', trivial, by simp [newA], by rw [List.length_replicate]; exact (back32 hn).2⟩).go st
theorem own_newRA (X : Stand p l e R s m args below meth c T locs cells slots) (hx : p.tables.exec = Jvm.exec) (hby : c.code = B) (hZ : Z.Warmed39 s.vm) {own C : String} {index : Nat} (hown : s.vm.findClass own = some m.cls) (hC : (FieldType.array ty).toString = C) (w1 : (Jvm.Cond.classLink own index C).before a0 Z = true) (w2 : (Jvm.Cond.arrayOver (.array ty)).before a0 Z = true) (eT : T.heap = h) (hd : decode B pc = .ok (.anewarray index, 3)) (hp : pc + 3 = pc') {n : Int32} (hn : ¬ n < 0) {N : Nat} (hN : n.toNatClampNeg = N) {cap : Nat} (hcap : N ≤ cap) (hbb : cap * 8 ≤ 536870912) (hc : cells + 1 ≤ R.cells) (hl : slots + cap ≤ R.slots) {ad : String} (had : "[" ++ C = ad)
    (k : ∀ T' h' a, Stand p l e R s m args below meth c T' locs (cells + 1) (slots + cap) → T'.heap = h' → Ext h h' → h.size = a → Exa Z h' a ad → Ary (ovA Z ty C) Z h' a (.array ty) (List.replicate N .null) → Gt p.tables e below F (T'.setTop (mkF m pc' L (.ref a :: rest)))) : Gt p.tables e below F (T.setTop (mkF m pc L (.int n :: rest))) := by
  subst hp hN
  obtain ⟨T', h', cA, X', e', E', A', Ex, O, st⟩ := newRA X hx hZ hown hC w1 w2 eT (g := mkF m pc L (.int n :: rest)) rfl (hb hby hd) rfl hn hcap hbb hc hl had
  exact (k T' h' _ X' e' E' rfl Ex ⟨_, A', O, by simp [newA, defaultValue], by rw [List.length_replicate]; exact (back32 hn).2⟩).go st
theorem own_newRO (X : Stand p l e R s m args below meth c T locs cells slots) (hx : p.tables.exec = Jvm.exec) (hby : c.code = B) (hZ : Z.Warmed39 s.vm) {own C : String} {index : Nat} (hown : s.vm.findClass own = some m.cls) (w1 : (Jvm.Cond.classLink own index C).before a0 Z = true) (w2 : (Jvm.Cond.arrayOver (.object C)).before a0 Z = true) (eT : T.heap = h) (hd : decode B pc = .ok (.anewarray index, 3)) (hp : pc + 3 = pc') {n : Int32} (hn : ¬ n < 0) {N : Nat} (hN : n.toNatClampNeg = N) {cap : Nat} (hcap : N ≤ cap) (hbb : cap * 8 ≤ 536870912) (hc : cells + 1 ≤ R.cells) (hl : slots + cap ≤ R.slots) {ad : String} (had : "[" ++ (FieldType.object C).toString = ad)
    (k : ∀ T' h' a, Stand p l e R s m args below meth c T' locs (cells + 1) (slots + cap) → T'.heap = h' → Ext h h' → h.size = a → Exa Z h' a ad → Ary (ovO Z C) Z h' a (.object C) (List.replicate N .null) → Gt p.tables e below F (T'.setTop (mkF m pc' L (.ref a :: rest)))) : Gt p.tables e below F (T.setTop (mkF m pc L (.int n :: rest))) := by
  subst hp hN
  obtain ⟨T', h', cA, X', e', E', A', Ex, O, st⟩ := newRE X hx hZ hown w1 w2 eT (g := mkF m pc L (.int n :: rest)) rfl (hb hby hd) rfl hn hcap hbb hc hl had
  exact (k T' h' _ X' e' E' rfl Ex ⟨_, A', O, by simp [newA, defaultValue], by rw [List.length_replicate]; exact (back32 hn).2⟩).go st
/-- new T[3][3] of a primitive kind -/
theorem own_grid3 (X : Stand p l e R s m args below meth c T locs cells slots) (hx : p.tables.exec = Jvm.exec) (hby : c.code = B) (hZ : Z.Warmed39 s.vm) {own C ad : String} {index : Nat} (hown : s.vm.findClass own = some m.cls) (hC : (FieldType.array ty).toString = C) (had : "[" ++ C = ad)
    (w1 : (Jvm.Cond.classLink own index ad).before a0 Z = true) (w2 : (Jvm.Cond.arrayOver (.array ty)).before a0 Z = true) (w3 : (Jvm.Cond.arrayClass ty).before a0 Z = true) (eT : T.heap = h) (hd : decode B pc = .ok (.multianewarray index 2, 4)) (hp : pc + 4 = pc') (hdf : fits ty (defaultValue ty) = true) (hdd : (defaultValue ty).isDefault = true) (hc : cells + 4 ≤ R.cells) (hl : slots + 12 ≤ R.slots)
    (k : ∀ T' h' a b1 b2 b3, Stand p l e R s m args below meth c T' locs (cells + 4) (slots + 12) → T'.heap = h' → Ext h h' → h.size = a → a < b1 → b1 < b2 → b2 < b3 → Exa Z h' a ad → Ary (ovA Z ty C) Z h' a (.array ty) [.ref b1, .ref b2, .ref b3] → Exa Z h' b1 C → Exa Z h' b2 C → Exa Z h' b3 C → Ary tr Z h' b1 ty [defaultValue ty, defaultValue ty, defaultValue ty] → Ary tr Z h' b2 ty [defaultValue ty, defaultValue ty, defaultValue ty] → Ary tr Z h' b3 ty [defaultValue ty, defaultValue ty, defaultValue ty] → Gt p.tables e below F (T'.setTop (mkF m pc' L (.ref a :: rest)))) : Gt p.tables e below F (T.setTop (mkF m pc L (.int 3 :: .int 3 :: rest))) := by
  subst hp
  obtain ⟨T', h', cA, comp, X', e', E', ⟨cl, A1, A2, A3, A4, A5, A6⟩, O, Ex, I, st⟩ := gridM X hx hZ hown hC had w1 w2 w3 eT (g := mkF m pc L (.int 3 :: .int 3 :: rest)) rfl (hb hby hd) (n := 3) (k := 3) rfl (by decide) (by decide) (N := 3) (by decide) (xs := [h.size + 1, h.size + 2, h.size + 3]) rfl (cap := 3) (by decide) (by decide) (by decide) hdf hdd hc hl
  have i1 := I 0 _ rfl; have i2 := I 1 _ rfl; have i3 := I 2 _ rfl
  have f : ∀ x, Arr Z h' x (newA comp ty 3) ty → Ary tr Z h' x ty [defaultValue ty, defaultValue ty, defaultValue ty] := fun x q => ⟨_, q, trivial, by simp [newA], by show 3 < 2 ^ 31; decide⟩
  refine (k T' h' _ _ _ _ X' e' E' rfl (Nat.lt_succ_self _) (Nat.lt_succ_self _) (Nat.lt_succ_self _) Ex ⟨cl, A1, A2 ▸ O, ?_, by show 3 < 2 ^ 31; decide⟩ i1.2 i2.2 i3.2 (f _ i1.1) (f _ i2.1) (f _ i3.1)).go st
  have sz : cl.slots.size = 3 := A3
  refine List.ext_getElem? fun i => ?_
  by_cases hi : i < 3
  · have q := A5 i (by omega)
    rw [Array.getElem?_toList, q]
    match i, hi with
    | 0, _ => rfl
    | 1, _ => rfl
    | 2, _ => rfl
  · rw [List.getElem?_eq_none (by simp; omega), List.getElem?_eq_none (by simp; omega)]
end OwnA
section OwnL
theorem own_lget {α : Type} {L : List α} {d : α} {i : Nat} {f : α → Value} (h : i < L.length) : (L.map f)[i]? = some (f (L.getD i d)) := by
  rw [List.getElem?_map, List.getD_eq_getElem?_getD, List.getElem?_eq_getElem h]; rfl
theorem own_rg0 {i : Int32} {m : Int} (h : 0 ≤ i.toInt ∧ i.toInt < m) : ¬ i < 0 := by
  rw [Int32.lt_iff_toInt_lt]; have : (0 : Int32).toInt = 0 := by decide
  omega
theorem own_rgl {α : Type} {L : List α} {i : Int32} {m : Int} {n : Nat} (h : 0 ≤ i.toInt ∧ i.toInt < m) (hl : L.length = n) (e : m.toNat = n := by rfl) : i.toNatClampNeg < L.length := by
  show i.toInt.toNat < _; omega
end OwnL
section OwnC
variable {x y : UInt64} {i j : Int64} {a b : Int32}
abbrev dlt (x y : UInt64) : Prop := FP.dcmp x y = some .lt
abbrev dgt (x y : UInt64) : Prop := FP.dcmp x y = some .gt
abbrev deq (x y : UInt64) : Prop := FP.dcmp x y = some .eq
abbrev dle (x y : UInt64) : Prop := FP.dcmp x y = some .lt ∨ FP.dcmp x y = some .eq
abbrev dge (x y : UInt64) : Prop := FP.dcmp x y = some .gt ∨ FP.dcmp x y = some .eq
theorem own_dl_lt_p (h : dge x y) : ifCond.holds .lt (cmpValue (FP.dcmp x y) .l) = false := by
  unfold dge at h; revert h; generalize FP.dcmp x y = o; rcases o with _ | (_ | _ | _) <;> decide
theorem own_dl_lt_n (h : ¬ dge x y) : ifCond.holds .lt (cmpValue (FP.dcmp x y) .l) = true := by
  unfold dge at h; revert h; generalize FP.dcmp x y = o; rcases o with _ | (_ | _ | _) <;> decide
theorem own_dl_ge_p (h : dge x y) : ifCond.holds .ge (cmpValue (FP.dcmp x y) .l) = true := by
  unfold dge at h; revert h; generalize FP.dcmp x y = o; rcases o with _ | (_ | _ | _) <;> decide
theorem own_dl_ge_n (h : ¬ dge x y) : ifCond.holds .ge (cmpValue (FP.dcmp x y) .l) = false := by
  unfold dge at h; revert h; generalize FP.dcmp x y = o; rcases o with _ | (_ | _ | _) <;> decide
theorem own_dl_gt_p (h : dgt x y) : ifCond.holds .gt (cmpValue (FP.dcmp x y) .l) = true := by
  unfold dgt at h; revert h; generalize FP.dcmp x y = o; rcases o with _ | (_ | _ | _) <;> decide
theorem own_dl_gt_n (h : ¬ dgt x y) : ifCond.holds .gt (cmpValue (FP.dcmp x y) .l) = false := by
  unfold dgt at h; revert h; generalize FP.dcmp x y = o; rcases o with _ | (_ | _ | _) <;> decide
theorem own_dl_le_p (h : dgt x y) : ifCond.holds .le (cmpValue (FP.dcmp x y) .l) = false := by
  unfold dgt at h; revert h; generalize FP.dcmp x y = o; rcases o with _ | (_ | _ | _) <;> decide
theorem own_dl_le_n (h : ¬ dgt x y) : ifCond.holds .le (cmpValue (FP.dcmp x y) .l) = true := by
  unfold dgt at h; revert h; generalize FP.dcmp x y = o; rcases o with _ | (_ | _ | _) <;> decide
theorem own_dl_eq_p (h : deq x y) : ifCond.holds .eq (cmpValue (FP.dcmp x y) .l) = true := by
  unfold deq at h; revert h; generalize FP.dcmp x y = o; rcases o with _ | (_ | _ | _) <;> decide
theorem own_dl_eq_n (h : ¬ deq x y) : ifCond.holds .eq (cmpValue (FP.dcmp x y) .l) = false := by
  unfold deq at h; revert h; generalize FP.dcmp x y = o; rcases o with _ | (_ | _ | _) <;> decide
theorem own_dl_ne_p (h : deq x y) : ifCond.holds .ne (cmpValue (FP.dcmp x y) .l) = false := by
  unfold deq at h; revert h; generalize FP.dcmp x y = o; rcases o with _ | (_ | _ | _) <;> decide
theorem own_dl_ne_n (h : ¬ deq x y) : ifCond.holds .ne (cmpValue (FP.dcmp x y) .l) = true := by
  unfold deq at h; revert h; generalize FP.dcmp x y = o; rcases o with _ | (_ | _ | _) <;> decide
theorem own_dg_lt_p (h : dlt x y) : ifCond.holds .lt (cmpValue (FP.dcmp x y) .g) = true := by
  unfold dlt at h; revert h; generalize FP.dcmp x y = o; rcases o with _ | (_ | _ | _) <;> decide
theorem own_dg_lt_n (h : ¬ dlt x y) : ifCond.holds .lt (cmpValue (FP.dcmp x y) .g) = false := by
  unfold dlt at h; revert h; generalize FP.dcmp x y = o; rcases o with _ | (_ | _ | _) <;> decide
theorem own_dg_ge_p (h : dlt x y) : ifCond.holds .ge (cmpValue (FP.dcmp x y) .g) = false := by
  unfold dlt at h; revert h; generalize FP.dcmp x y = o; rcases o with _ | (_ | _ | _) <;> decide
theorem own_dg_ge_n (h : ¬ dlt x y) : ifCond.holds .ge (cmpValue (FP.dcmp x y) .g) = true := by
  unfold dlt at h; revert h; generalize FP.dcmp x y = o; rcases o with _ | (_ | _ | _) <;> decide
theorem own_dg_gt_p (h : dle x y) : ifCond.holds .gt (cmpValue (FP.dcmp x y) .g) = false := by
  unfold dle at h; revert h; generalize FP.dcmp x y = o; rcases o with _ | (_ | _ | _) <;> decide
theorem own_dg_gt_n (h : ¬ dle x y) : ifCond.holds .gt (cmpValue (FP.dcmp x y) .g) = true := by
  unfold dle at h; revert h; generalize FP.dcmp x y = o; rcases o with _ | (_ | _ | _) <;> decide
theorem own_dg_le_p (h : dle x y) : ifCond.holds .le (cmpValue (FP.dcmp x y) .g) = true := by
  unfold dle at h; revert h; generalize FP.dcmp x y = o; rcases o with _ | (_ | _ | _) <;> decide
theorem own_dg_le_n (h : ¬ dle x y) : ifCond.holds .le (cmpValue (FP.dcmp x y) .g) = false := by
  unfold dle at h; revert h; generalize FP.dcmp x y = o; rcases o with _ | (_ | _ | _) <;> decide
theorem own_dg_eq_p (h : deq x y) : ifCond.holds .eq (cmpValue (FP.dcmp x y) .g) = true := by
  unfold deq at h; revert h; generalize FP.dcmp x y = o; rcases o with _ | (_ | _ | _) <;> decide
theorem own_dg_eq_n (h : ¬ deq x y) : ifCond.holds .eq (cmpValue (FP.dcmp x y) .g) = false := by
  unfold deq at h; revert h; generalize FP.dcmp x y = o; rcases o with _ | (_ | _ | _) <;> decide
theorem own_dg_ne_p (h : deq x y) : ifCond.holds .ne (cmpValue (FP.dcmp x y) .g) = false := by
  unfold deq at h; revert h; generalize FP.dcmp x y = o; rcases o with _ | (_ | _ | _) <;> decide
theorem own_dg_ne_n (h : ¬ deq x y) : ifCond.holds .ne (cmpValue (FP.dcmp x y) .g) = true := by
  unfold deq at h; revert h; generalize FP.dcmp x y = o; rcases o with _ | (_ | _ | _) <;> decide
theorem own_lc_lt_p (h : i < j) : ifCond.holds .lt (if i > j then 1 else if i = j then 0 else -1 : Int32) = true := by
  simp only [gt_iff_lt, Int64.lt_iff_toInt_lt, ← Int64.toInt_inj] at h ⊢
  rcases Int.lt_trichotomy i.toInt j.toInt with q | q | q
  · rw [if_neg (by omega), if_neg (by omega)]; first | rfl | (exfalso; omega)
  · rw [if_neg (by omega), if_pos q]; first | rfl | (exfalso; omega)
  · rw [if_pos q]; first | rfl | (exfalso; omega)
theorem own_lc_lt_n (h : ¬ i < j) : ifCond.holds .lt (if i > j then 1 else if i = j then 0 else -1 : Int32) = false := by
  simp only [gt_iff_lt, Int64.lt_iff_toInt_lt, ← Int64.toInt_inj] at h ⊢
  rcases Int.lt_trichotomy i.toInt j.toInt with q | q | q
  · rw [if_neg (by omega), if_neg (by omega)]; first | rfl | (exfalso; omega)
  · rw [if_neg (by omega), if_pos q]; first | rfl | (exfalso; omega)
  · rw [if_pos q]; first | rfl | (exfalso; omega)
theorem own_lc_ge_p (h : i < j) : ifCond.holds .ge (if i > j then 1 else if i = j then 0 else -1 : Int32) = false := by
  simp only [gt_iff_lt, Int64.lt_iff_toInt_lt, ← Int64.toInt_inj] at h ⊢
  rcases Int.lt_trichotomy i.toInt j.toInt with q | q | q
  · rw [if_neg (by omega), if_neg (by omega)]; first | rfl | (exfalso; omega)
  · rw [if_neg (by omega), if_pos q]; first | rfl | (exfalso; omega)
  · rw [if_pos q]; first | rfl | (exfalso; omega)
theorem own_lc_ge_n (h : ¬ i < j) : ifCond.holds .ge (if i > j then 1 else if i = j then 0 else -1 : Int32) = true := by
  simp only [gt_iff_lt, Int64.lt_iff_toInt_lt, ← Int64.toInt_inj] at h ⊢
  rcases Int.lt_trichotomy i.toInt j.toInt with q | q | q
  · rw [if_neg (by omega), if_neg (by omega)]; first | rfl | (exfalso; omega)
  · rw [if_neg (by omega), if_pos q]; first | rfl | (exfalso; omega)
  · rw [if_pos q]; first | rfl | (exfalso; omega)
theorem own_lc_gt_p (h : j < i) : ifCond.holds .gt (if i > j then 1 else if i = j then 0 else -1 : Int32) = true := by
  simp only [gt_iff_lt, Int64.lt_iff_toInt_lt, ← Int64.toInt_inj] at h ⊢
  rcases Int.lt_trichotomy i.toInt j.toInt with q | q | q
  · rw [if_neg (by omega), if_neg (by omega)]; first | rfl | (exfalso; omega)
  · rw [if_neg (by omega), if_pos q]; first | rfl | (exfalso; omega)
  · rw [if_pos q]; first | rfl | (exfalso; omega)
theorem own_lc_gt_n (h : ¬ j < i) : ifCond.holds .gt (if i > j then 1 else if i = j then 0 else -1 : Int32) = false := by
  simp only [gt_iff_lt, Int64.lt_iff_toInt_lt, ← Int64.toInt_inj] at h ⊢
  rcases Int.lt_trichotomy i.toInt j.toInt with q | q | q
  · rw [if_neg (by omega), if_neg (by omega)]; first | rfl | (exfalso; omega)
  · rw [if_neg (by omega), if_pos q]; first | rfl | (exfalso; omega)
  · rw [if_pos q]; first | rfl | (exfalso; omega)
theorem own_lc_le_p (h : j < i) : ifCond.holds .le (if i > j then 1 else if i = j then 0 else -1 : Int32) = false := by
  simp only [gt_iff_lt, Int64.lt_iff_toInt_lt, ← Int64.toInt_inj] at h ⊢
  rcases Int.lt_trichotomy i.toInt j.toInt with q | q | q
  · rw [if_neg (by omega), if_neg (by omega)]; first | rfl | (exfalso; omega)
  · rw [if_neg (by omega), if_pos q]; first | rfl | (exfalso; omega)
  · rw [if_pos q]; first | rfl | (exfalso; omega)
theorem own_lc_le_n (h : ¬ j < i) : ifCond.holds .le (if i > j then 1 else if i = j then 0 else -1 : Int32) = true := by
  simp only [gt_iff_lt, Int64.lt_iff_toInt_lt, ← Int64.toInt_inj] at h ⊢
  rcases Int.lt_trichotomy i.toInt j.toInt with q | q | q
  · rw [if_neg (by omega), if_neg (by omega)]; first | rfl | (exfalso; omega)
  · rw [if_neg (by omega), if_pos q]; first | rfl | (exfalso; omega)
  · rw [if_pos q]; first | rfl | (exfalso; omega)
theorem own_lc_eq_p (h : i = j) : ifCond.holds .eq (if i > j then 1 else if i = j then 0 else -1 : Int32) = true := by
  simp only [gt_iff_lt, Int64.lt_iff_toInt_lt, ← Int64.toInt_inj] at h ⊢
  rcases Int.lt_trichotomy i.toInt j.toInt with q | q | q
  · rw [if_neg (by omega), if_neg (by omega)]; first | rfl | (exfalso; omega)
  · rw [if_neg (by omega), if_pos q]; first | rfl | (exfalso; omega)
  · rw [if_pos q]; first | rfl | (exfalso; omega)
theorem own_lc_eq_n (h : ¬ i = j) : ifCond.holds .eq (if i > j then 1 else if i = j then 0 else -1 : Int32) = false := by
  simp only [gt_iff_lt, Int64.lt_iff_toInt_lt, ← Int64.toInt_inj] at h ⊢
  rcases Int.lt_trichotomy i.toInt j.toInt with q | q | q
  · rw [if_neg (by omega), if_neg (by omega)]; first | rfl | (exfalso; omega)
  · rw [if_neg (by omega), if_pos q]; first | rfl | (exfalso; omega)
  · rw [if_pos q]; first | rfl | (exfalso; omega)
theorem own_lc_ne_p (h : i = j) : ifCond.holds .ne (if i > j then 1 else if i = j then 0 else -1 : Int32) = false := by
  simp only [gt_iff_lt, Int64.lt_iff_toInt_lt, ← Int64.toInt_inj] at h ⊢
  rcases Int.lt_trichotomy i.toInt j.toInt with q | q | q
  · rw [if_neg (by omega), if_neg (by omega)]; first | rfl | (exfalso; omega)
  · rw [if_neg (by omega), if_pos q]; first | rfl | (exfalso; omega)
  · rw [if_pos q]; first | rfl | (exfalso; omega)
theorem own_lc_ne_n (h : ¬ i = j) : ifCond.holds .ne (if i > j then 1 else if i = j then 0 else -1 : Int32) = true := by
  simp only [gt_iff_lt, Int64.lt_iff_toInt_lt, ← Int64.toInt_inj] at h ⊢
  rcases Int.lt_trichotomy i.toInt j.toInt with q | q | q
  · rw [if_neg (by omega), if_neg (by omega)]; first | rfl | (exfalso; omega)
  · rw [if_neg (by omega), if_pos q]; first | rfl | (exfalso; omega)
  · rw [if_pos q]; first | rfl | (exfalso; omega)
theorem own_i0_lt_p (h : a < 0) : ifCond.holds .lt a = true := (if0 _ _).trans (tlt h).1
theorem own_i0_lt_n (h : ¬ a < 0) : ifCond.holds .lt a = false := (if0 _ _).trans (flt h).1
theorem own_i0_ge_p (h : a < 0) : ifCond.holds .ge a = false := (if0 _ _).trans (tlt h).2.1
theorem own_i0_ge_n (h : ¬ a < 0) : ifCond.holds .ge a = true := (if0 _ _).trans (flt h).2.1
theorem own_i0_gt_p (h : 0 < a) : ifCond.holds .gt a = true := (if0 _ _).trans (tlt h).2.2.1
theorem own_i0_gt_n (h : ¬ 0 < a) : ifCond.holds .gt a = false := (if0 _ _).trans (flt h).2.2.1
theorem own_i0_le_p (h : 0 < a) : ifCond.holds .le a = false := (if0 _ _).trans (tlt h).2.2.2
theorem own_i0_le_n (h : ¬ 0 < a) : ifCond.holds .le a = true := (if0 _ _).trans (flt h).2.2.2
theorem own_i0_eq_p (h : a = 0) : ifCond.holds .eq a = true := (if0 _ _).trans (teq h).1
theorem own_i0_eq_n (h : ¬ a = 0) : ifCond.holds .eq a = false := (if0 _ _).trans (feq h).1
theorem own_i0_ne_p (h : a = 0) : ifCond.holds .ne a = false := (if0 _ _).trans (teq h).2
theorem own_i0_ne_n (h : ¬ a = 0) : ifCond.holds .ne a = true := (if0 _ _).trans (feq h).2
theorem own_ic_lt_p (h : a < b) : if_icmp.holds .lt a b = true := (tlt h).1
theorem own_ic_lt_n (h : ¬ a < b) : if_icmp.holds .lt a b = false := (flt h).1
theorem own_ic_ge_p (h : a < b) : if_icmp.holds .ge a b = false := (tlt h).2.1
theorem own_ic_ge_n (h : ¬ a < b) : if_icmp.holds .ge a b = true := (flt h).2.1
theorem own_ic_gt_p (h : b < a) : if_icmp.holds .gt a b = true := (tlt h).2.2.1
theorem own_ic_gt_n (h : ¬ b < a) : if_icmp.holds .gt a b = false := (flt h).2.2.1
theorem own_ic_le_p (h : b < a) : if_icmp.holds .le a b = false := (tlt h).2.2.2
theorem own_ic_le_n (h : ¬ b < a) : if_icmp.holds .le a b = true := (flt h).2.2.2
theorem own_ic_eq_p (h : a = b) : if_icmp.holds .eq a b = true := (teq h).1
theorem own_ic_eq_n (h : ¬ a = b) : if_icmp.holds .eq a b = false := (feq h).1
theorem own_ic_ne_p (h : a = b) : if_icmp.holds .ne a b = false := (teq h).2
theorem own_ic_ne_n (h : ¬ a = b) : if_icmp.holds .ne a b = true := (feq h).2
end OwnC
section OwnF
open Jvm.FP.Core (val64 zval zmag b64 one64 DFin DZero good_b64 val64_fits inUnits signed sgn)
/-- the value in units of 2^-1074 -/
abbrev zv (x : UInt64) : Int := zval b64 (val64 x)
def uu : Int := ((one64 : Nat) : Int)
theorem uu_pos : 0 < uu := by have := FP.Core.one64_pos; show (0 : Int) < ((one64 : Nat) : Int); omega
theorem own_add_le {x y V : UInt64} (hx : DFin x) (hy : DFin y) (hV : val64 V ≠ .nan) (h : zv x + zv y ≤ zv V) : zv (FP.dadd x y) ≤ zv V := by
  show zval b64 (val64 (FP.Core.dadd x y)) ≤ _
  rw [FP.Core.val64_dadd]; exact FP.Core.sum_le good_b64 hx hy (val64_fits x) (val64_fits y) (val64_fits V) hV h
theorem own_add_ge {x y V : UInt64} (hx : DFin x) (hy : DFin y) (hV : val64 V ≠ .nan) (h : zv V ≤ zv x + zv y) : zv V ≤ zv (FP.dadd x y) := by
  show _ ≤ zval b64 (val64 (FP.Core.dadd x y))
  rw [FP.Core.val64_dadd]; exact FP.Core.sum_ge good_b64 hx hy (val64_fits x) (val64_fits y) (val64_fits V) hV h
theorem own_neg_fin {y : UInt64} (hy : DFin y) : ∃ s c q, FP.Core.negate (val64 y) = .fin s c q := by
  obtain ⟨s, c, q, h⟩ := hy; exact ⟨!s, c, q, by rw [h]; rfl⟩
theorem own_sub_le {x y V : UInt64} (hx : DFin x) (hy : DFin y) (hV : val64 V ≠ .nan) (h : zv x - zv y ≤ zv V) : zv (FP.dsub x y) ≤ zv V := by
  show zval b64 (val64 (FP.Core.dsub x y)) ≤ _
  rw [FP.Core.val64_dsub]; exact FP.Core.sum_le good_b64 hx (own_neg_fin hy) (val64_fits x) (FP.Core.negate_fits (val64_fits y)) (val64_fits V) hV (by rw [FP.Core.zval_negate]; unfold zv at h; omega)
theorem own_sub_ge {x y V : UInt64} (hx : DFin x) (hy : DFin y) (hV : val64 V ≠ .nan) (h : zv V ≤ zv x - zv y) : zv V ≤ zv (FP.dsub x y) := by
  show _ ≤ zval b64 (val64 (FP.Core.dsub x y))
  rw [FP.Core.val64_dsub]; exact FP.Core.sum_ge good_b64 hx (own_neg_fin hy) (val64_fits x) (FP.Core.negate_fits (val64_fits y)) (val64_fits V) hV (by rw [FP.Core.zval_negate]; unfold zv at h; omega)
theorem own_signed_mul (s t : Bool) (m n : Nat) : signed (s != t) (m * n) = signed s m * signed t n := by
  cases s <;> cases t <;> simp [signed, Int.neg_mul, Int.mul_neg]
theorem own_qm : b64.qmin = -1074 := by decide
theorem own_pow_e0 : ((2 ^ (b64.qmin - 2 * b64.qmin).toNat : Nat) : Int) = uu := by
  show _ = ((one64 : Nat) : Int); rw [← FP.Core.pow_qmin64]; congr 3
theorem own_mul_le {x y V : UInt64} (hx : DFin x) (hy : DFin y) (hV : val64 V ≠ .nan) (h : zv x * zv y ≤ zv V * uu) : zv (FP.dmul x y) ≤ zv V := by
  show zval b64 (val64 (FP.Core.dmul x y)) ≤ _
  obtain ⟨s, c, q, ex⟩ := hx
  obtain ⟨t, d, r, ey⟩ := hy
  have fx := val64_fits x; have fy := val64_fits y
  rw [ex] at fx; rw [ey] at fy
  unfold zv at h
  rw [ex, ey] at h
  rw [FP.Core.val64_dmul, ex, ey]
  obtain ⟨e1, e2, e3⟩ := FP.Core.product_units fx fy
  rw [e1]
  refine FP.Core.zval_round_le good_b64 (val64_fits V) hV (e0 := 2 * b64.qmin) (by rw [own_qm]; decide) e2 ?_
  rw [e3, own_pow_e0, own_signed_mul]; exact h
theorem own_mul_ge {x y V : UInt64} (hx : DFin x) (hy : DFin y) (hV : val64 V ≠ .nan) (h : zv V * uu ≤ zv x * zv y) : zv V ≤ zv (FP.dmul x y) := by
  show _ ≤ zval b64 (val64 (FP.Core.dmul x y))
  obtain ⟨s, c, q, ex⟩ := hx
  obtain ⟨t, d, r, ey⟩ := hy
  have fx := val64_fits x; have fy := val64_fits y
  rw [ex] at fx; rw [ey] at fy
  unfold zv at h
  rw [ex, ey] at h
  rw [FP.Core.val64_dmul, ex, ey]
  obtain ⟨e1, e2, e3⟩ := FP.Core.product_units fx fy
  rw [e1]
  refine FP.Core.zval_round_ge good_b64 (val64_fits V) hV (e0 := 2 * b64.qmin) (by rw [own_qm]; decide) e2 ?_
  rw [e3, own_pow_e0, own_signed_mul]; exact h
/-- a quotient's two sides in whole units -/
theorem own_div_units {c d : Nat} {q r : Int} (hq : -1074 ≤ q) (hr : -1074 ≤ r) (hr2 : r ≤ 971) (v : Nat) :
    ∃ k : Nat, 0 < k ∧ inUnits c (q - r) (-2148) * k = inUnits c q (-1074) * one64 * 2 ^ 1074 ∧ (v * 2 ^ (1074 : Nat) * d) * k = v * inUnits d r (-1074) * 2 ^ 1074 := by
  refine ⟨2 ^ (r + 1074).toNat, Nat.two_pow_pos _, ?_, ?_⟩
  · unfold inUnits one64
    rw [Nat.mul_assoc, ← Nat.pow_add, Nat.mul_assoc, Nat.mul_assoc, ← Nat.pow_add, ← Nat.pow_add, show (q - r - -2148).toNat + (r + 1074).toNat = (q - -1074).toNat + (1074 + 1074) by omega]
  · unfold inUnits
    rw [show (r - -1074).toNat = (r + 1074).toNat by omega]
    generalize 2 ^ (1074 : Nat) = w
    generalize 2 ^ (r + 1074).toNat = u
    simp only [Nat.mul_comm, Nat.mul_left_comm, Nat.mul_assoc]
theorem own_div_mag_le {x y V : UInt64} (hx : DFin x) (hy : DFin y) (hz : ¬ DZero y) (hV : val64 V ≠ .nan) (h : zmag b64 (val64 x) * one64 ≤ zmag b64 (val64 V) * zmag b64 (val64 y)) : zmag b64 (val64 (FP.ddiv x y)) ≤ zmag b64 (val64 V) := by
  show zmag b64 (val64 (FP.Core.ddiv x y)) ≤ _
  obtain ⟨s, c, q, ex⟩ := hx
  obtain ⟨t, d, r, ey⟩ := hy
  have fx := val64_fits x; have fy := val64_fits y
  rw [ex] at fx; rw [ey] at fy
  have hd : d ≠ 0 := fun e => hz ⟨t, r, by rw [ey, e]⟩
  rw [FP.Core.val64_ddiv, ex, ey]
  rw [ex, ey] at h
  show zmag b64 (if d = 0 then _ else FP.Core.roundRatio b64 (s != t) c d (q - r)) ≤ _
  rw [if_neg hd]
  have b1 : -1074 ≤ q := own_qm ▸ fx.2.1
  have b2 : -1074 ≤ r := own_qm ▸ fy.2.1
  have b3 : r ≤ 971 := fy.2.2.1
  refine FP.Core.zmag_roundRatio_le good_b64 (Nat.pos_of_ne_zero hd) (val64_fits V) hV (e0 := -2148) (by rw [own_qm]; decide) (by omega) ?_
  obtain ⟨k, hk, k1, k2⟩ := own_div_units (c := c) (d := d) b1 b2 b3 (zmag b64 (val64 V))
  rw [show (b64.qmin - -2148).toNat = 1074 by rw [own_qm]; decide]
  refine Nat.le_of_mul_le_mul_right ?_ hk
  rw [k1, k2]
  exact Nat.mul_le_mul_right _ (by have := h; simp only [zmag, own_qm] at this; exact this)
theorem own_div_mag_ge {x y V : UInt64} (hx : DFin x) (hy : DFin y) (hz : ¬ DZero y) (h : zmag b64 (val64 V) * zmag b64 (val64 y) ≤ zmag b64 (val64 x) * one64) : zmag b64 (val64 V) ≤ zmag b64 (val64 (FP.ddiv x y)) := by
  show _ ≤ zmag b64 (val64 (FP.Core.ddiv x y))
  obtain ⟨s, c, q, ex⟩ := hx
  obtain ⟨t, d, r, ey⟩ := hy
  have fx := val64_fits x; have fy := val64_fits y
  rw [ex] at fx; rw [ey] at fy
  have hd : d ≠ 0 := fun e => hz ⟨t, r, by rw [ey, e]⟩
  rw [FP.Core.val64_ddiv, ex, ey]
  rw [ex, ey] at h
  show _ ≤ zmag b64 (if d = 0 then _ else FP.Core.roundRatio b64 (s != t) c d (q - r))
  rw [if_neg hd]
  have b1 : -1074 ≤ q := own_qm ▸ fx.2.1
  have b2 : -1074 ≤ r := own_qm ▸ fy.2.1
  have b3 : r ≤ 971 := fy.2.2.1
  refine FP.Core.zmag_roundRatio_ge good_b64 (Nat.pos_of_ne_zero hd) (val64_fits V) (e0 := -2148) (by rw [own_qm]; decide) (by omega) ?_
  obtain ⟨k, hk, k1, k2⟩ := own_div_units (c := c) (d := d) b1 b2 b3 (zmag b64 (val64 V))
  rw [show (b64.qmin - -2148).toNat = 1074 by rw [own_qm]; decide]
  refine Nat.le_of_mul_le_mul_right ?_ hk
  rw [k1, k2]
  exact Nat.mul_le_mul_right _ (by have := h; simp only [zmag, own_qm] at this; exact this)
theorem own_sgn_div {x y : UInt64} (hx : DFin x) (hy : DFin y) (hz : ¬ DZero y) : sgn (val64 (FP.ddiv x y)) = (sgn (val64 x) != sgn (val64 y)) := by
  show sgn (val64 (FP.Core.ddiv x y)) = _
  obtain ⟨s, c, q, ex⟩ := hx
  obtain ⟨t, d, r, ey⟩ := hy
  have hd : d ≠ 0 := fun e => hz ⟨t, r, by rw [ey, e]⟩
  rw [FP.Core.val64_ddiv, ex, ey]
  show sgn (if d = 0 then _ else FP.Core.roundRatio b64 (s != t) c d (q - r)) = _
  rw [if_neg hd, FP.Core.sgn_roundRatio]; rfl
theorem own_notz {y : UInt64} (hy : DFin y) (h : 0 < zv y) : ¬ DZero y := fun q => by have := q.zval; unfold zv at h; omega
theorem own_possg {y : UInt64} (h : 0 < zv y) : sgn (val64 y) = false ∧ ((zmag b64 (val64 y) : Nat) : Int) = zv y := by
  unfold zv zval at *
  cases e : sgn (val64 y) <;> rw [e] at h <;> simp only [signed, if_true, Bool.false_eq_true, if_false] at h ⊢
  · exact ⟨trivial, trivial⟩
  · omega
theorem own_div_le {x y V : UInt64} (hx : DFin x) (hy : DFin y) (h0 : 0 < zv y) (hV : val64 V ≠ .nan) (h : zv x * uu ≤ zv V * zv y) : zv (FP.ddiv x y) ≤ zv V := by
  have hz := own_notz hy h0
  obtain ⟨s1, s2⟩ := own_possg h0
  have sd := own_sgn_div hx hy hz
  have L := own_div_mag_le (V := V) hx hy hz hV
  have G := own_div_mag_ge (V := V) hx hy hz
  rw [← s2] at h
  have hy0 : 0 < zmag b64 (val64 y) := by omega
  unfold zv zval at h ⊢
  rw [sd, s1]
  have u0 := FP.Core.one64_pos
  have e : uu = ((one64 : Nat) : Int) := rfl
  rw [e] at h
  generalize zmag b64 (val64 y) = my at *
  generalize zmag b64 (val64 x) = mx at *
  generalize zmag b64 (val64 V) = mv at *
  generalize zmag b64 (val64 (FP.ddiv x y)) = md at *
  generalize one64 = u at *
  have p1 : ((mx : Nat) : Int) * ((u : Nat) : Int) = ((mx * u : Nat) : Int) := (Int.natCast_mul ..).symm
  have p2 : ((mv : Nat) : Int) * ((my : Nat) : Int) = ((mv * my : Nat) : Int) := (Int.natCast_mul ..).symm
  have z1 : mv * my = 0 → mv = 0 := fun q => by rcases Nat.mul_eq_zero.mp q with q | q <;> omega
  generalize sgn (val64 x) = sx at h ⊢
  generalize sgn (val64 V) = sV at h ⊢
  cases sx <;> cases sV <;> simp only [signed, if_true, Bool.false_eq_true, if_false, Int.neg_mul, p1, p2, bne_self_eq_false, Bool.bne_false] at h ⊢
  · have := L (by omega); omega
  · have := L (by omega); have := z1 (by omega); omega
  · omega
  · have := G (by omega); omega
theorem own_div_ge {x y V : UInt64} (hx : DFin x) (hy : DFin y) (h0 : 0 < zv y) (hV : val64 V ≠ .nan) (h : zv V * zv y ≤ zv x * uu) : zv V ≤ zv (FP.ddiv x y) := by
  have hz := own_notz hy h0
  obtain ⟨s1, s2⟩ := own_possg h0
  have sd := own_sgn_div hx hy hz
  have L := own_div_mag_le (V := V) hx hy hz hV
  have G := own_div_mag_ge (V := V) hx hy hz
  rw [← s2] at h
  have hy0 : 0 < zmag b64 (val64 y) := by omega
  unfold zv zval at h ⊢
  rw [sd, s1]
  have u0 := FP.Core.one64_pos
  have e : uu = ((one64 : Nat) : Int) := rfl
  rw [e] at h
  generalize zmag b64 (val64 y) = my at *
  generalize zmag b64 (val64 x) = mx at *
  generalize zmag b64 (val64 V) = mv at *
  generalize zmag b64 (val64 (FP.ddiv x y)) = md at *
  generalize one64 = u at *
  have p1 : ((mx : Nat) : Int) * ((u : Nat) : Int) = ((mx * u : Nat) : Int) := (Int.natCast_mul ..).symm
  have p2 : ((mv : Nat) : Int) * ((my : Nat) : Int) = ((mv * my : Nat) : Int) := (Int.natCast_mul ..).symm
  have z1 : mv * my = 0 → mv = 0 := fun q => by rcases Nat.mul_eq_zero.mp q with q | q <;> omega
  generalize sgn (val64 x) = sx at h ⊢
  generalize sgn (val64 V) = sV at h ⊢
  cases sx <;> cases sV <;> simp only [signed, if_true, Bool.false_eq_true, if_false, Int.neg_mul, p1, p2, bne_self_eq_false, Bool.bne_false] at h ⊢
  · have := G (by omega); omega
  · omega
  · have := L (by omega); have := z1 (by omega); omega
  · have := L (by omega); omega
theorem own_bits_of_zv {x : UInt64} (hn : val64 x ≠ .nan) {V : UInt64} (hV : DFin V) (h : zv x = zv V) : DFin x := by
  have q := hV.zval_lt
  cases e : val64 x with
  | nan => exact absurd e hn
  | fin s c r => exact ⟨s, c, r, e⟩
  | inf s =>
    exfalso
    have a1 : (zv x).natAbs = zmag b64 (val64 x) := by unfold zv zval; cases sgn (val64 x) <;> simp [signed]
    have a2 : (zv V).natAbs = zmag b64 (val64 V) := by unfold zv zval; cases sgn (val64 V) <;> simp [signed]
    rw [h, a2, e] at a1
    rw [a1] at q
    exact Nat.lt_irrefl _ q
/-- every n / 2^k of at most 53 digits is a double -/
theorem own_rep (n : Int) (k : Nat) (h1 : n.natAbs < 9007199254740992) (hk : k ≤ 1074) : ∃ V : UInt64, DFin V ∧ zv V * ((2 ^ k : Nat) : Int) = n * uu := by
  obtain ⟨c', q', e1, e2⟩ := FP.Core.round_exact good_b64 (decide (n < 0)) (c := n.natAbs) (q := -(k : Int)) (by exact h1) (by rw [own_qm]; omega) (by have h971 : b64.qmax = 971 := (by decide); omega)
  have f := FP.Core.round_fits good_b64 (.fin (decide (n < 0)) n.natAbs (-(k : Int)))
  refine ⟨FP.Core.of64 (FP.Core.round b64 (.fin (decide (n < 0)) n.natAbs (-(k : Int)))), ⟨decide (n < 0), c', q', by rw [FP.Core.val64_of64 f, e1]⟩, ?_⟩
  unfold zv
  rw [FP.Core.val64_of64 f, e1]
  show signed (decide (n < 0)) (inUnits c' q' b64.qmin) * _ = _
  rw [e2]
  unfold inUnits
  rw [FP.Core.signed_mul, Int.mul_assoc, ← Int.natCast_mul, ← Nat.pow_add, show (-(k : Int) - b64.qmin).toNat + k = 1074 by rw [own_qm]; omega]
  have s0 : signed (decide (n < 0)) n.natAbs = n := by
    unfold signed
    by_cases q : n < 0 <;> simp [q] <;> omega
  rw [s0]; rfl
/-- x is the number n / 2^k -/
def Dy (x : UInt64) (n : Int) (k : Nat) : Prop := DFin x ∧ zv x * ((2 ^ k : Nat) : Int) = n * uu
theorem Dy.fin {x : UInt64} {n : Int} {k : Nat} (D : Dy x n k) : DFin x := D.1
theorem Dy.nn {x : UInt64} {n : Int} {k : Nat} (D : Dy x n k) : NoNaN64 x := Fl.val64_no.mpr D.1.ne_nan
theorem own_pk (k : Nat) : 0 < ((2 ^ k : Nat) : Int) := by have := Nat.two_pow_pos k; omega
theorem own_mid {a b c d : Int} {k : Nat} (h1 : a * ((2 ^ k : Nat) : Int) = c) (h2 : b * ((2 ^ k : Nat) : Int) = d) : (a ≤ b ↔ c ≤ d) ∧ (a < b ↔ c < d) ∧ (a = b ↔ c = d) := by
  have p := own_pk k
  subst h1 h2
  generalize ((2 ^ k : Nat) : Int) = w at *
  exact ⟨(Int.mul_le_mul_right p).symm, (Int.mul_lt_mul_right p).symm, ⟨fun q => by rw [q], fun q => Int.eq_of_mul_eq_mul_right (by omega) q⟩⟩
theorem Dy.cmp {x y : UInt64} {n m : Int} {k : Nat} (A : Dy x n k) (B : Dy y m k) : FP.dcmp x y = some (compare n m) := by
  show FP.Core.dcmp x y = _
  rw [FP.Core.dcmp_zval A.1.ne_nan B.1.ne_nan]
  congr 1
  obtain ⟨-, q2, q3⟩ := own_mid A.2 B.2
  have u := uu_pos
  refine FP.Core.compare_congr (q2.trans ⟨fun q => ?_, fun q => Int.mul_lt_mul_of_pos_right q u⟩) (q3.trans ⟨fun q => Int.eq_of_mul_eq_mul_right (by omega) q, fun q => by rw [q]⟩)
  exact Int.lt_of_mul_lt_mul_right q (Int.le_of_lt u)
theorem Dy.lt {x y : UInt64} {n m : Int} {k : Nat} (A : Dy x n k) (B : Dy y m k) : FP.dcmp x y = some .lt ↔ n < m := by
  rw [A.cmp B, Option.some.injEq, FP.Core.compare_lt_iff]
theorem Dy.gt {x y : UInt64} {n m : Int} {k : Nat} (A : Dy x n k) (B : Dy y m k) : FP.dcmp x y = some .gt ↔ m < n := by
  rw [A.cmp B, Option.some.injEq, FP.Core.compare_gt_iff]
theorem Dy.eq {x y : UInt64} {n m : Int} {k : Nat} (A : Dy x n k) (B : Dy y m k) : FP.dcmp x y = some .eq ↔ n = m := by
  rw [A.cmp B, Option.some.injEq, FP.Core.compare_eq_iff]
theorem Dy.of_zv {x V : UInt64} {n : Int} {k : Nat} (hn : val64 x ≠ .nan) (hV : DFin V) (e : zv V * ((2 ^ k : Nat) : Int) = n * uu) (h1 : zv x ≤ zv V) (h2 : zv V ≤ zv x) : Dy x n k := by
  have q : zv x = zv V := by omega
  exact ⟨own_bits_of_zv hn hV q, by rw [q]; exact e⟩
theorem own_nn_add {x y : UInt64} (hx : DFin x) (hy : DFin y) : val64 (FP.dadd x y) ≠ .nan := Fl.val64_no.mp (Fl.noNaN64_no.mpr (FP.Core.dadd_out hx.notNaN hy))
theorem own_nn_sub {x y : UInt64} (hx : DFin x) (hy : DFin y) : val64 (FP.dsub x y) ≠ .nan := Fl.val64_no.mp (Fl.noNaN64_no.mpr (FP.Core.dsub_out hx.notNaN hy))
theorem own_nn_mul {x y : UInt64} (hx : DFin x) (hy : DFin y) : val64 (FP.dmul x y) ≠ .nan := Fl.val64_no.mp (Fl.noNaN64_no.mpr (FP.Core.dmul_out hx hy))
theorem own_nn_div {x y : UInt64} (hx : DFin x) (hy : DFin y) (hz : ¬ DZero y) : val64 (FP.ddiv x y) ≠ .nan := Fl.val64_no.mp (Fl.noNaN64_no.mpr (FP.Core.ddiv_out hx.notNaN hy hz))
theorem Dy.add {x y : UInt64} {n m : Int} {k : Nat} (A : Dy x n k) (B : Dy y m k) (hb : (n + m).natAbs < 9007199254740992) (hk : k ≤ 1074) : Dy (FP.dadd x y) (n + m) k := by
  obtain ⟨V, fV, eV⟩ := own_rep (n + m) k hb hk
  have e : (zv x + zv y) * ((2 ^ k : Nat) : Int) = (n + m) * uu := by rw [Int.add_mul, A.2, B.2, Int.add_mul]
  obtain ⟨-, -, q⟩ := own_mid e eV
  have q := q.mpr rfl
  exact Dy.of_zv (own_nn_add A.1 B.1) fV eV (own_add_le A.1 B.1 fV.ne_nan (by omega)) (own_add_ge A.1 B.1 fV.ne_nan (by omega))
theorem Dy.sub {x y : UInt64} {n m : Int} {k : Nat} (A : Dy x n k) (B : Dy y m k) (hb : (n - m).natAbs < 9007199254740992) (hk : k ≤ 1074) : Dy (FP.dsub x y) (n - m) k := by
  obtain ⟨V, fV, eV⟩ := own_rep (n - m) k hb hk
  have e : (zv x - zv y) * ((2 ^ k : Nat) : Int) = (n - m) * uu := by rw [Int.sub_mul, A.2, B.2, Int.sub_mul]
  obtain ⟨-, -, q⟩ := own_mid e eV
  have q := q.mpr rfl
  exact Dy.of_zv (own_nn_sub A.1 B.1) fV eV (own_sub_le A.1 B.1 fV.ne_nan (by omega)) (own_sub_ge A.1 B.1 fV.ne_nan (by omega))
theorem own_alg1 {X Y K J n m u : Int} (a : X * K = n * u) (b : Y * J = m * u) : X * Y * (K * J) = n * m * u * u := by
  calc X * Y * (K * J) = (X * K) * (Y * J) := by ac_rfl
    _ = (n * u) * (m * u) := by rw [a, b]
    _ = n * m * u * u := by ac_rfl
theorem own_alg2 {V K N u : Int} (e : V * K = N * u) : V * u * K = N * u * u := by
  calc V * u * K = V * K * u := by ac_rfl
    _ = N * u * u := by rw [e]
theorem own_alg3 {X Y V K J I n m r u : Int} (a : X * K = n * u) (b : Y * J = m * u) (e : V * I = r * u) : X * u * (K * (J * I)) = n * (J * I) * (u * u) ∧ V * Y * (K * (J * I)) = r * m * K * (u * u) := by
  constructor
  · calc X * u * (K * (J * I)) = (X * K) * u * (J * I) := by ac_rfl
      _ = n * u * u * (J * I) := by rw [a]
      _ = n * (J * I) * (u * u) := by ac_rfl
  · calc V * Y * (K * (J * I)) = (V * I) * (Y * J) * K := by ac_rfl
      _ = (r * u) * (m * u) * K := by rw [e, b]
      _ = r * m * K * (u * u) := by ac_rfl
theorem Dy.mul {x y : UInt64} {n m : Int} {k j : Nat} (A : Dy x n k) (B : Dy y m j) (hb : (n * m).natAbs < 9007199254740992) (hk : k + j ≤ 1074) : Dy (FP.dmul x y) (n * m) (k + j) := by
  obtain ⟨V, fV, eV⟩ := own_rep (n * m) (k + j) hb hk
  have e : (zv x * zv y) * ((2 ^ (k + j) : Nat) : Int) = (n * m) * uu * uu := by
    rw [Nat.pow_add, Int.natCast_mul]; exact own_alg1 A.2 B.2
  have e' : (zv V * uu) * ((2 ^ (k + j) : Nat) : Int) = (n * m) * uu * uu := own_alg2 eV
  obtain ⟨-, -, q⟩ := own_mid e e'
  have q := q.mpr rfl
  exact Dy.of_zv (own_nn_mul A.1 B.1) fV eV (own_mul_le A.1 B.1 fV.ne_nan (by omega)) (own_mul_ge A.1 B.1 fV.ne_nan (by omega))
theorem Dy.pos {y : UInt64} {m : Int} {j : Nat} (B : Dy y m j) (hm : 0 < m) : 0 < zv y := by
  have p := own_pk j
  have b := B.2
  have : 0 < m * uu := Int.mul_pos hm uu_pos
  rw [← b] at this
  exact Int.lt_of_mul_lt_mul_right (by rw [Int.zero_mul]; exact this) (Int.le_of_lt p)
/-- an exact quotient -/
theorem Dy.div {x y : UInt64} {n m r : Int} {k j i : Nat} (A : Dy x n k) (B : Dy y m j) (hm : 0 < m) (hq : n * ((2 ^ (j + i) : Nat) : Int) = r * m * ((2 ^ k : Nat) : Int)) (hb : r.natAbs < 9007199254740992) (hi : i ≤ 1074) : Dy (FP.ddiv x y) r i := by
  obtain ⟨V, fV, eV⟩ := own_rep r i hb hi
  have h0 := B.pos hm
  have e : zv x * uu = zv V * zv y := by
    have pk := own_pk k; have pj := own_pk j; have pi := own_pk i
    rw [Nat.pow_add, Int.natCast_mul] at hq
    obtain ⟨a1, a2⟩ := own_alg3 A.2 B.2 eV
    refine Int.eq_of_mul_eq_mul_right (a := ((2 ^ k : Nat) : Int) * (((2 ^ j : Nat) : Int) * ((2 ^ i : Nat) : Int))) (Int.ne_of_gt (Int.mul_pos pk (Int.mul_pos pj pi))) ?_
    rw [a1, a2, hq]
  exact Dy.of_zv (own_nn_div A.1 B.1 (own_notz B.1 h0)) fV eV (own_div_le A.1 B.1 h0 fV.ne_nan (by omega)) (own_div_ge A.1 B.1 h0 fV.ne_nan (by omega))
theorem Dy.up {x : UInt64} {n : Int} {k : Nat} (A : Dy x n k) (j : Nat) : Dy x (n * ((2 ^ j : Nat) : Int)) (k + j) := by
  refine ⟨A.1, ?_⟩
  rw [Nat.pow_add, Int.natCast_mul, ← Int.mul_assoc, A.2]; exact Int.mul_right_comm _ _ _
theorem Dy.to {x : UInt64} {n n' : Int} {k : Nat} (A : Dy x n k) (e : n = n') : Dy x n' k := e ▸ A
theorem own_dy_int {x : UInt64} {i : Int} (h : FP.Core.DInt i x) : Dy x i 0 := by
  have z := FP.Core.DInt_zval h
  have n := FP.Core.DInt_ne_nan h
  refine ⟨?_, by rw [show ((2 ^ 0 : Nat) : Int) = 1 from rfl, Int.mul_one]; exact z⟩
  unfold FP.Core.DInt at h
  cases e : val64 x with
  | nan => exact absurd e n
  | inf s => rw [e] at h; exact h.elim
  | fin s c q => exact ⟨s, c, q, e⟩
theorem dy_i2d (a : Int32) : Dy (FP.i2d a) a.toInt 0 := own_dy_int (FP.Core.i2d_int a)
theorem dy_l2d {a : Int64} (h1 : -9007199254740992 < a.toInt) (h2 : a.toInt < 9007199254740992) : Dy (FP.l2d a) a.toInt 0 := own_dy_int (FP.Core.l2d_whole ⟨h1, h2⟩)
/-- 0.0 + x is x, bit for bit, for a finite x that isn't -0.0 -/
theorem own_zero_add {x : UInt64} {s : Bool} {c : Nat} {q : Int} (hx : val64 x = .fin s c q) (h0 : c = 0 → s = false) : FP.dadd 0 x = x := by
  show FP.Core.dadd 0 x = x
  have fx := val64_fits x
  rw [hx] at fx
  have hq := fx.2.1
  have key : val64 (FP.Core.dadd 0 x) = .fin s c q := by
    rw [FP.Core.val64_dadd, FP.Core.val64_zero, hx]
    have m : min b64.qmin q = b64.qmin := by omega
    have u : FP.Core.sumUnits false 0 b64.qmin s c q b64.qmin = signed s (inUnits c q b64.qmin) := by
      unfold FP.Core.sumUnits; simp [signed, inUnits]
    show FP.Core.roundRatio b64 (FP.Core.sumSign false s (FP.Core.sumUnits false 0 b64.qmin s c q (min b64.qmin q))) (FP.Core.sumUnits false 0 b64.qmin s c q (min b64.qmin q)).natAbs 1 (min b64.qmin q) = _
    rw [m, u]
    have na : (signed s (inUnits c q b64.qmin)).natAbs = inUnits c q b64.qmin := by unfold signed; cases s <;> simp
    have sg : FP.Core.sumSign false s (signed s (inUnits c q b64.qmin)) = s := by
      have pp := Nat.two_pow_pos (q - b64.qmin).toNat
      unfold FP.Core.sumSign
      by_cases c0 : c = 0
      · subst c0; simp [signed, inUnits, h0 rfl]
      · have : 0 < inUnits c q b64.qmin := Nat.mul_pos (Nat.pos_of_ne_zero c0) pp
        cases s <;> simp [signed] <;> omega
    rw [na, sg]
    refine FP.Core.roundRatio_exact good_b64 (by decide) fx ?_
    rw [show (b64.qmin - q).toNat = 0 by omega, Nat.pow_zero, Nat.mul_one, Nat.mul_one]; rfl
  exact FP.Core.val64_inj (by rw [key]; exact FP.Core.Datum.noConfusion) (key.trans hx.symm)
theorem own_scale3 {X Y n m r : Int} {k j i : Nat} {V : Int} (a : X * ((2 ^ k : Nat) : Int) = n * uu) (b : Y * ((2 ^ j : Nat) : Int) = m * uu) (e : V * ((2 ^ i : Nat) : Int) = r * uu) :
    X * uu * (((2 ^ k : Nat) : Int) * (((2 ^ j : Nat) : Int) * ((2 ^ i : Nat) : Int))) = n * ((2 ^ (j + i) : Nat) : Int) * (uu * uu) ∧ V * Y * (((2 ^ k : Nat) : Int) * (((2 ^ j : Nat) : Int) * ((2 ^ i : Nat) : Int))) = r * m * ((2 ^ k : Nat) : Int) * (uu * uu) := by
  rw [Nat.pow_add, Int.natCast_mul]; exact own_alg3 a b e
theorem Dy.div_le {x y V : UInt64} {n m r : Int} {k j i : Nat} (A : Dy x n k) (B : Dy y m j) (hm : 0 < m) (C : Dy V r i) (h : n * ((2 ^ (j + i) : Nat) : Int) ≤ r * m * ((2 ^ k : Nat) : Int)) : zv (FP.ddiv x y) ≤ zv V := by
  refine own_div_le A.1 B.1 (B.pos hm) C.1.ne_nan ?_
  obtain ⟨e1, e2⟩ := own_scale3 A.2 B.2 C.2
  have p : 0 < ((2 ^ k : Nat) : Int) * (((2 ^ j : Nat) : Int) * ((2 ^ i : Nat) : Int)) := Int.mul_pos (own_pk k) (Int.mul_pos (own_pk j) (own_pk i))
  refine Int.le_of_mul_le_mul_right ?_ p
  rw [e1, e2]
  exact Int.mul_le_mul_of_nonneg_right h (Int.le_of_lt (Int.mul_pos uu_pos uu_pos))
theorem Dy.div_ge {x y V : UInt64} {n m r : Int} {k j i : Nat} (A : Dy x n k) (B : Dy y m j) (hm : 0 < m) (C : Dy V r i) (h : r * m * ((2 ^ k : Nat) : Int) ≤ n * ((2 ^ (j + i) : Nat) : Int)) : zv V ≤ zv (FP.ddiv x y) := by
  refine own_div_ge A.1 B.1 (B.pos hm) C.1.ne_nan ?_
  obtain ⟨e1, e2⟩ := own_scale3 A.2 B.2 C.2
  have p : 0 < ((2 ^ k : Nat) : Int) * (((2 ^ j : Nat) : Int) * ((2 ^ i : Nat) : Int)) := Int.mul_pos (own_pk k) (Int.mul_pos (own_pk j) (own_pk i))
  refine Int.le_of_mul_le_mul_right ?_ p
  rw [e1, e2]
  exact Int.mul_le_mul_of_nonneg_right h (Int.le_of_lt (Int.mul_pos uu_pos uu_pos))
/-- the order of two numbers written over one power of two -/
theorem Dy.zle {x y : UInt64} {n m : Int} {k : Nat} (A : Dy x n k) (B : Dy y m k) : (zv x ≤ zv y ↔ n ≤ m) ∧ (zv x < zv y ↔ n < m) := by
  obtain ⟨q1, q2, -⟩ := own_mid A.2 B.2
  have u := uu_pos
  exact ⟨q1.trans ⟨fun q => Int.le_of_mul_le_mul_right q u, fun q => Int.mul_le_mul_of_nonneg_right q (Int.le_of_lt u)⟩, q2.trans ⟨fun q => Int.lt_of_mul_lt_mul_right q (Int.le_of_lt u), fun q => Int.mul_lt_mul_of_pos_right q u⟩⟩
end OwnF
theorem pn_com_example_cross_town_crosstown_solve_NodeHeapPollPinLaw : plainName "com/example/cross_town/crosstown/solve/NodeHeapPollPinLaw" = true := by first | (simp [plainName, overriddenIn]; done) | decide +kernel
theorem pn_com_example_cross_town_crosstown_solve_NodeHeap : plainName "com/example/cross_town/crosstown/solve/NodeHeap" = true := by first | (simp [plainName, overriddenIn]; done) | decide +kernel
theorem pn_java_util_Arrays : plainName "java/util/Arrays" = true := by first | (simp [plainName, overriddenIn]; done) | decide +kernel
theorem d1_0 : decode prog_33_method_1_code 0 = .ok (.aload_n 0, 1) := by decide +kernel
theorem d1_1 : decode prog_33_method_1_code 1 = .ok (.invokespecial 1, 3) := by decide +kernel
theorem d1_4 : decode prog_33_method_1_code 4 = .ok (.aload_n 0, 1) := by decide +kernel
theorem d1_5 : decode prog_33_method_1_code 5 = .ok (.iload_n 1, 1) := by decide +kernel
theorem d1_6 : decode prog_33_method_1_code 6 = .ok (.newarray .int, 2) := by decide +kernel
theorem d1_8 : decode prog_33_method_1_code 8 = .ok (.putfield 7, 3) := by decide +kernel
theorem d1_11 : decode prog_33_method_1_code 11 = .ok (.aload_n 0, 1) := by decide +kernel
theorem d1_12 : decode prog_33_method_1_code 12 = .ok (.iload_n 1, 1) := by decide +kernel
theorem d1_13 : decode prog_33_method_1_code 13 = .ok (.newarray .int, 2) := by decide +kernel
theorem d1_15 : decode prog_33_method_1_code 15 = .ok (.putfield 13, 3) := by decide +kernel
theorem d1_18 : decode prog_33_method_1_code 18 = .ok (.aload_n 0, 1) := by decide +kernel
theorem d1_19 : decode prog_33_method_1_code 19 = .ok (.iload_n 1, 1) := by decide +kernel
theorem d1_20 : decode prog_33_method_1_code 20 = .ok (.newarray .double, 2) := by decide +kernel
theorem d1_22 : decode prog_33_method_1_code 22 = .ok (.putfield 16, 3) := by decide +kernel
theorem d1_25 : decode prog_33_method_1_code 25 = .ok (.aload_n 0, 1) := by decide +kernel
theorem d1_26 : decode prog_33_method_1_code 26 = .ok (.getfield 13, 3) := by decide +kernel
theorem d1_29 : decode prog_33_method_1_code 29 = .ok (.iconst (-1), 1) := by decide +kernel
theorem d1_30 : decode prog_33_method_1_code 30 = .ok (.invokestatic 20, 3) := by decide +kernel
theorem d1_33 : decode prog_33_method_1_code 33 = .ok (.return_, 1) := by decide +kernel
theorem d3_0 : decode jdk_65_method_103_code 0 = .ok (.iconst 0, 1) := by decide +kernel
theorem d3_1 : decode jdk_65_method_103_code 1 = .ok (.istore_n 2, 1) := by decide +kernel
theorem d3_2 : decode jdk_65_method_103_code 2 = .ok (.aload_n 0, 1) := by decide +kernel
theorem d3_3 : decode jdk_65_method_103_code 3 = .ok (.arraylength, 1) := by decide +kernel
theorem d3_4 : decode jdk_65_method_103_code 4 = .ok (.istore_n 3, 1) := by decide +kernel
theorem d3_5 : decode jdk_65_method_103_code 5 = .ok (.iload_n 2, 1) := by decide +kernel
theorem d3_6 : decode jdk_65_method_103_code 6 = .ok (.iload_n 3, 1) := by decide +kernel
theorem d3_7 : decode jdk_65_method_103_code 7 = .ok (.if_icmp .ge 13, 3) := by decide +kernel
theorem d3_10 : decode jdk_65_method_103_code 10 = .ok (.aload_n 0, 1) := by decide +kernel
theorem d3_11 : decode jdk_65_method_103_code 11 = .ok (.iload_n 2, 1) := by decide +kernel
theorem d3_12 : decode jdk_65_method_103_code 12 = .ok (.iload_n 1, 1) := by decide +kernel
theorem d3_13 : decode jdk_65_method_103_code 13 = .ok (.iastore, 1) := by decide +kernel
theorem d3_14 : decode jdk_65_method_103_code 14 = .ok (.iinc 2 1, 3) := by decide +kernel
theorem d3_17 : decode jdk_65_method_103_code 17 = .ok (.goto (-12), 3) := by decide +kernel
theorem d3_20 : decode jdk_65_method_103_code 20 = .ok (.return_, 1) := by decide +kernel
theorem d4_0 : decode prog_33_method_3_code 0 = .ok (.aload_n 0, 1) := by decide +kernel
theorem d4_1 : decode prog_33_method_3_code 1 = .ok (.getfield 13, 3) := by decide +kernel
theorem d4_4 : decode prog_33_method_3_code 4 = .ok (.iload_n 1, 1) := by decide +kernel
theorem d4_5 : decode prog_33_method_3_code 5 = .ok (.iaload, 1) := by decide +kernel
theorem d4_6 : decode prog_33_method_3_code 6 = .ok (.istore 4, 2) := by decide +kernel
theorem d4_8 : decode prog_33_method_3_code 8 = .ok (.iload 4, 2) := by decide +kernel
theorem d4_10 : decode prog_33_method_3_code 10 = .ok (.iconst (-1), 1) := by decide +kernel
theorem d4_11 : decode prog_33_method_3_code 11 = .ok (.if_icmp .ne 19, 3) := by decide +kernel
theorem d4_14 : decode prog_33_method_3_code 14 = .ok (.aload_n 0, 1) := by decide +kernel
theorem d4_15 : decode prog_33_method_3_code 15 = .ok (.getfield 26, 3) := by decide +kernel
theorem d4_18 : decode prog_33_method_3_code 18 = .ok (.istore 4, 2) := by decide +kernel
theorem d4_20 : decode prog_33_method_3_code 20 = .ok (.aload_n 0, 1) := by decide +kernel
theorem d4_21 : decode prog_33_method_3_code 21 = .ok (.dup, 1) := by decide +kernel
theorem d4_22 : decode prog_33_method_3_code 22 = .ok (.getfield 26, 3) := by decide +kernel
theorem d4_25 : decode prog_33_method_3_code 25 = .ok (.iconst 1, 1) := by decide +kernel
theorem d4_26 : decode prog_33_method_3_code 26 = .ok (.iadd, 1) := by decide +kernel
theorem d4_27 : decode prog_33_method_3_code 27 = .ok (.putfield 26, 3) := by decide +kernel
theorem d4_30 : decode prog_33_method_3_code 30 = .ok (.aload_n 0, 1) := by decide +kernel
theorem d4_31 : decode prog_33_method_3_code 31 = .ok (.getfield 16, 3) := by decide +kernel
theorem d4_34 : decode prog_33_method_3_code 34 = .ok (.iload_n 1, 1) := by decide +kernel
theorem d4_35 : decode prog_33_method_3_code 35 = .ok (.dload_n 2, 1) := by decide +kernel
theorem d4_36 : decode prog_33_method_3_code 36 = .ok (.dastore, 1) := by decide +kernel
theorem d4_37 : decode prog_33_method_3_code 37 = .ok (.aload_n 0, 1) := by decide +kernel
theorem d4_38 : decode prog_33_method_3_code 38 = .ok (.iload 4, 2) := by decide +kernel
theorem d4_40 : decode prog_33_method_3_code 40 = .ok (.iload_n 1, 1) := by decide +kernel
theorem d4_41 : decode prog_33_method_3_code 41 = .ok (.invokevirtual 30, 3) := by decide +kernel
theorem d4_44 : decode prog_33_method_3_code 44 = .ok (.return_, 1) := by decide +kernel
theorem d5_0 : decode prog_33_method_5_code 0 = .ok (.iload_n 1, 1) := by decide +kernel
theorem d5_1 : decode prog_33_method_5_code 1 = .ok (.istore_n 3, 1) := by decide +kernel
theorem d5_2 : decode prog_33_method_5_code 2 = .ok (.iload_n 3, 1) := by decide +kernel
theorem d5_3 : decode prog_33_method_5_code 3 = .ok (.ifCond .le 53, 3) := by decide +kernel
theorem d5_6 : decode prog_33_method_5_code 6 = .ok (.iload_n 3, 1) := by decide +kernel
theorem d5_7 : decode prog_33_method_5_code 7 = .ok (.iconst 1, 1) := by decide +kernel
theorem d5_8 : decode prog_33_method_5_code 8 = .ok (.isub, 1) := by decide +kernel
theorem d5_9 : decode prog_33_method_5_code 9 = .ok (.iconst 2, 1) := by decide +kernel
theorem d5_10 : decode prog_33_method_5_code 10 = .ok (.idiv, 1) := by decide +kernel
theorem d5_11 : decode prog_33_method_5_code 11 = .ok (.istore 4, 2) := by decide +kernel
theorem d5_13 : decode prog_33_method_5_code 13 = .ok (.aload_n 0, 1) := by decide +kernel
theorem d5_14 : decode prog_33_method_5_code 14 = .ok (.getfield 16, 3) := by decide +kernel
theorem d5_17 : decode prog_33_method_5_code 17 = .ok (.aload_n 0, 1) := by decide +kernel
theorem d5_18 : decode prog_33_method_5_code 18 = .ok (.getfield 7, 3) := by decide +kernel
theorem d5_21 : decode prog_33_method_5_code 21 = .ok (.iload 4, 2) := by decide +kernel
theorem d5_23 : decode prog_33_method_5_code 23 = .ok (.iaload, 1) := by decide +kernel
theorem d5_24 : decode prog_33_method_5_code 24 = .ok (.daload, 1) := by decide +kernel
theorem d5_25 : decode prog_33_method_5_code 25 = .ok (.aload_n 0, 1) := by decide +kernel
theorem d5_26 : decode prog_33_method_5_code 26 = .ok (.getfield 16, 3) := by decide +kernel
theorem d5_29 : decode prog_33_method_5_code 29 = .ok (.iload_n 2, 1) := by decide +kernel
theorem d5_30 : decode prog_33_method_5_code 30 = .ok (.daload, 1) := by decide +kernel
theorem d5_31 : decode prog_33_method_5_code 31 = .ok (.dcmp .g, 1) := by decide +kernel
theorem d5_32 : decode prog_33_method_5_code 32 = .ok (.ifCond .gt 6, 3) := by decide +kernel
theorem d5_35 : decode prog_33_method_5_code 35 = .ok (.goto 21, 3) := by decide +kernel
theorem d5_38 : decode prog_33_method_5_code 38 = .ok (.aload_n 0, 1) := by decide +kernel
theorem d5_39 : decode prog_33_method_5_code 39 = .ok (.iload_n 3, 1) := by decide +kernel
theorem d5_40 : decode prog_33_method_5_code 40 = .ok (.aload_n 0, 1) := by decide +kernel
theorem d5_41 : decode prog_33_method_5_code 41 = .ok (.getfield 7, 3) := by decide +kernel
theorem d5_44 : decode prog_33_method_5_code 44 = .ok (.iload 4, 2) := by decide +kernel
theorem d5_46 : decode prog_33_method_5_code 46 = .ok (.iaload, 1) := by decide +kernel
theorem d5_47 : decode prog_33_method_5_code 47 = .ok (.invokevirtual 37, 3) := by decide +kernel
theorem d5_50 : decode prog_33_method_5_code 50 = .ok (.iload 4, 2) := by decide +kernel
theorem d5_52 : decode prog_33_method_5_code 52 = .ok (.istore_n 3, 1) := by decide +kernel
theorem d5_53 : decode prog_33_method_5_code 53 = .ok (.goto (-51), 3) := by decide +kernel
theorem d5_56 : decode prog_33_method_5_code 56 = .ok (.aload_n 0, 1) := by decide +kernel
theorem d5_57 : decode prog_33_method_5_code 57 = .ok (.iload_n 3, 1) := by decide +kernel
theorem d5_58 : decode prog_33_method_5_code 58 = .ok (.iload_n 2, 1) := by decide +kernel
theorem d5_59 : decode prog_33_method_5_code 59 = .ok (.invokevirtual 37, 3) := by decide +kernel
theorem d5_62 : decode prog_33_method_5_code 62 = .ok (.return_, 1) := by decide +kernel
theorem d6_0 : decode prog_33_method_7_code 0 = .ok (.aload_n 0, 1) := by decide +kernel
theorem d6_1 : decode prog_33_method_7_code 1 = .ok (.getfield 7, 3) := by decide +kernel
theorem d6_4 : decode prog_33_method_7_code 4 = .ok (.iload_n 1, 1) := by decide +kernel
theorem d6_5 : decode prog_33_method_7_code 5 = .ok (.iload_n 2, 1) := by decide +kernel
theorem d6_6 : decode prog_33_method_7_code 6 = .ok (.iastore, 1) := by decide +kernel
theorem d6_7 : decode prog_33_method_7_code 7 = .ok (.aload_n 0, 1) := by decide +kernel
theorem d6_8 : decode prog_33_method_7_code 8 = .ok (.getfield 13, 3) := by decide +kernel
theorem d6_11 : decode prog_33_method_7_code 11 = .ok (.iload_n 2, 1) := by decide +kernel
theorem d6_12 : decode prog_33_method_7_code 12 = .ok (.iload_n 1, 1) := by decide +kernel
theorem d6_13 : decode prog_33_method_7_code 13 = .ok (.iastore, 1) := by decide +kernel
theorem d6_14 : decode prog_33_method_7_code 14 = .ok (.return_, 1) := by decide +kernel
theorem d7_0 : decode method_2_code 0 = .ok (.aload_n 0, 1) := by decide +kernel
theorem d7_1 : decode method_2_code 1 = .ok (.iconst 0, 1) := by decide +kernel
theorem d7_2 : decode method_2_code 2 = .ok (.laload, 1) := by decide +kernel
theorem d7_3 : decode method_2_code 3 = .ok (.aload_n 0, 1) := by decide +kernel
theorem d7_4 : decode method_2_code 4 = .ok (.iconst 1, 1) := by decide +kernel
theorem d7_5 : decode method_2_code 5 = .ok (.laload, 1) := by decide +kernel
theorem d7_6 : decode method_2_code 6 = .ok (.invokestatic 7, 3) := by decide +kernel
theorem d7_9 : decode method_2_code 9 = .ok (.aload_n 0, 1) := by decide +kernel
theorem d7_10 : decode method_2_code 10 = .ok (.iconst 2, 1) := by decide +kernel
theorem d7_11 : decode method_2_code 11 = .ok (.laload, 1) := by decide +kernel
theorem d7_12 : decode method_2_code 12 = .ok (.aload_n 0, 1) := by decide +kernel
theorem d7_13 : decode method_2_code 13 = .ok (.iconst 3, 1) := by decide +kernel
theorem d7_14 : decode method_2_code 14 = .ok (.laload, 1) := by decide +kernel
theorem d7_15 : decode method_2_code 15 = .ok (.invokestatic 7, 3) := by decide +kernel
theorem d7_18 : decode method_2_code 18 = .ok (.invokestatic 7, 3) := by decide +kernel
theorem d7_21 : decode method_2_code 21 = .ok (.lreturn, 1) := by decide +kernel
theorem d8_0 : decode jdk_29_method_70_code 0 = .ok (.lload_n 0, 1) := by decide +kernel
theorem d8_1 : decode jdk_29_method_70_code 1 = .ok (.lload_n 2, 1) := by decide +kernel
theorem d8_2 : decode jdk_29_method_70_code 2 = .ok (.lcmp, 1) := by decide +kernel
theorem d8_3 : decode jdk_29_method_70_code 3 = .ok (.ifCond .gt 7, 3) := by decide +kernel
theorem d8_6 : decode jdk_29_method_70_code 6 = .ok (.lload_n 0, 1) := by decide +kernel
theorem d8_7 : decode jdk_29_method_70_code 7 = .ok (.goto 4, 3) := by decide +kernel
theorem d8_10 : decode jdk_29_method_70_code 10 = .ok (.lload_n 2, 1) := by decide +kernel
theorem d8_11 : decode jdk_29_method_70_code 11 = .ok (.lreturn, 1) := by decide +kernel
theorem d9_0 : decode prog_33_method_4_code 0 = .ok (.aload_n 0, 1) := by decide +kernel
theorem d9_1 : decode prog_33_method_4_code 1 = .ok (.getfield 7, 3) := by decide +kernel
theorem d9_4 : decode prog_33_method_4_code 4 = .ok (.iconst 0, 1) := by decide +kernel
theorem d9_5 : decode prog_33_method_4_code 5 = .ok (.iaload, 1) := by decide +kernel
theorem d9_6 : decode prog_33_method_4_code 6 = .ok (.istore_n 1, 1) := by decide +kernel
theorem d9_7 : decode prog_33_method_4_code 7 = .ok (.aload_n 0, 1) := by decide +kernel
theorem d9_8 : decode prog_33_method_4_code 8 = .ok (.getfield 13, 3) := by decide +kernel
theorem d9_11 : decode prog_33_method_4_code 11 = .ok (.iload_n 1, 1) := by decide +kernel
theorem d9_12 : decode prog_33_method_4_code 12 = .ok (.iconst (-1), 1) := by decide +kernel
theorem d9_13 : decode prog_33_method_4_code 13 = .ok (.iastore, 1) := by decide +kernel
theorem d9_14 : decode prog_33_method_4_code 14 = .ok (.aload_n 0, 1) := by decide +kernel
theorem d9_15 : decode prog_33_method_4_code 15 = .ok (.dup, 1) := by decide +kernel
theorem d9_16 : decode prog_33_method_4_code 16 = .ok (.getfield 26, 3) := by decide +kernel
theorem d9_19 : decode prog_33_method_4_code 19 = .ok (.iconst 1, 1) := by decide +kernel
theorem d9_20 : decode prog_33_method_4_code 20 = .ok (.isub, 1) := by decide +kernel
theorem d9_21 : decode prog_33_method_4_code 21 = .ok (.putfield 26, 3) := by decide +kernel
theorem d9_24 : decode prog_33_method_4_code 24 = .ok (.aload_n 0, 1) := by decide +kernel
theorem d9_25 : decode prog_33_method_4_code 25 = .ok (.getfield 26, 3) := by decide +kernel
theorem d9_28 : decode prog_33_method_4_code 28 = .ok (.ifCond .le 17, 3) := by decide +kernel
theorem d9_31 : decode prog_33_method_4_code 31 = .ok (.aload_n 0, 1) := by decide +kernel
theorem d9_32 : decode prog_33_method_4_code 32 = .ok (.iconst 0, 1) := by decide +kernel
theorem d9_33 : decode prog_33_method_4_code 33 = .ok (.aload_n 0, 1) := by decide +kernel
theorem d9_34 : decode prog_33_method_4_code 34 = .ok (.getfield 7, 3) := by decide +kernel
theorem d9_37 : decode prog_33_method_4_code 37 = .ok (.aload_n 0, 1) := by decide +kernel
theorem d9_38 : decode prog_33_method_4_code 38 = .ok (.getfield 26, 3) := by decide +kernel
theorem d9_41 : decode prog_33_method_4_code 41 = .ok (.iaload, 1) := by decide +kernel
theorem d9_42 : decode prog_33_method_4_code 42 = .ok (.invokevirtual 34, 3) := by decide +kernel
theorem d9_45 : decode prog_33_method_4_code 45 = .ok (.iload_n 1, 1) := by decide +kernel
theorem d9_46 : decode prog_33_method_4_code 46 = .ok (.ireturn, 1) := by decide +kernel
theorem d10_0 : decode prog_33_method_6_code 0 = .ok (.iload_n 1, 1) := by decide +kernel
theorem d10_1 : decode prog_33_method_6_code 1 = .ok (.istore_n 3, 1) := by decide +kernel
theorem d10_2 : decode prog_33_method_6_code 2 = .ok (.iconst 2, 1) := by decide +kernel
theorem d10_3 : decode prog_33_method_6_code 3 = .ok (.iload_n 3, 1) := by decide +kernel
theorem d10_4 : decode prog_33_method_6_code 4 = .ok (.imul, 1) := by decide +kernel
theorem d10_5 : decode prog_33_method_6_code 5 = .ok (.iconst 1, 1) := by decide +kernel
theorem d10_6 : decode prog_33_method_6_code 6 = .ok (.iadd, 1) := by decide +kernel
theorem d10_7 : decode prog_33_method_6_code 7 = .ok (.aload_n 0, 1) := by decide +kernel
theorem d10_8 : decode prog_33_method_6_code 8 = .ok (.getfield 26, 3) := by decide +kernel
theorem d10_11 : decode prog_33_method_6_code 11 = .ok (.if_icmp .ge 97, 3) := by decide +kernel
theorem d10_14 : decode prog_33_method_6_code 14 = .ok (.iconst 2, 1) := by decide +kernel
theorem d10_15 : decode prog_33_method_6_code 15 = .ok (.iload_n 3, 1) := by decide +kernel
theorem d10_16 : decode prog_33_method_6_code 16 = .ok (.imul, 1) := by decide +kernel
theorem d10_17 : decode prog_33_method_6_code 17 = .ok (.iconst 1, 1) := by decide +kernel
theorem d10_18 : decode prog_33_method_6_code 18 = .ok (.iadd, 1) := by decide +kernel
theorem d10_19 : decode prog_33_method_6_code 19 = .ok (.istore 4, 2) := by decide +kernel
theorem d10_21 : decode prog_33_method_6_code 21 = .ok (.iload 4, 2) := by decide +kernel
theorem d10_23 : decode prog_33_method_6_code 23 = .ok (.iconst 1, 1) := by decide +kernel
theorem d10_24 : decode prog_33_method_6_code 24 = .ok (.iadd, 1) := by decide +kernel
theorem d10_25 : decode prog_33_method_6_code 25 = .ok (.aload_n 0, 1) := by decide +kernel
theorem d10_26 : decode prog_33_method_6_code 26 = .ok (.getfield 26, 3) := by decide +kernel
theorem d10_29 : decode prog_33_method_6_code 29 = .ok (.if_icmp .ge 36, 3) := by decide +kernel
theorem d10_32 : decode prog_33_method_6_code 32 = .ok (.aload_n 0, 1) := by decide +kernel
theorem d10_33 : decode prog_33_method_6_code 33 = .ok (.getfield 16, 3) := by decide +kernel
theorem d10_36 : decode prog_33_method_6_code 36 = .ok (.aload_n 0, 1) := by decide +kernel
theorem d10_37 : decode prog_33_method_6_code 37 = .ok (.getfield 7, 3) := by decide +kernel
theorem d10_40 : decode prog_33_method_6_code 40 = .ok (.iload 4, 2) := by decide +kernel
theorem d10_42 : decode prog_33_method_6_code 42 = .ok (.iconst 1, 1) := by decide +kernel
theorem d10_43 : decode prog_33_method_6_code 43 = .ok (.iadd, 1) := by decide +kernel
theorem d10_44 : decode prog_33_method_6_code 44 = .ok (.iaload, 1) := by decide +kernel
theorem d10_45 : decode prog_33_method_6_code 45 = .ok (.daload, 1) := by decide +kernel
theorem d10_46 : decode prog_33_method_6_code 46 = .ok (.aload_n 0, 1) := by decide +kernel
theorem d10_47 : decode prog_33_method_6_code 47 = .ok (.getfield 16, 3) := by decide +kernel
theorem d10_50 : decode prog_33_method_6_code 50 = .ok (.aload_n 0, 1) := by decide +kernel
theorem d10_51 : decode prog_33_method_6_code 51 = .ok (.getfield 7, 3) := by decide +kernel
theorem d10_54 : decode prog_33_method_6_code 54 = .ok (.iload 4, 2) := by decide +kernel
theorem d10_56 : decode prog_33_method_6_code 56 = .ok (.iaload, 1) := by decide +kernel
theorem d10_57 : decode prog_33_method_6_code 57 = .ok (.daload, 1) := by decide +kernel
theorem d10_58 : decode prog_33_method_6_code 58 = .ok (.dcmp .g, 1) := by decide +kernel
theorem d10_59 : decode prog_33_method_6_code 59 = .ok (.ifCond .ge 6, 3) := by decide +kernel
theorem d10_62 : decode prog_33_method_6_code 62 = .ok (.iinc 4 1, 3) := by decide +kernel
theorem d10_65 : decode prog_33_method_6_code 65 = .ok (.aload_n 0, 1) := by decide +kernel
theorem d10_66 : decode prog_33_method_6_code 66 = .ok (.getfield 16, 3) := by decide +kernel
theorem d10_69 : decode prog_33_method_6_code 69 = .ok (.iload_n 2, 1) := by decide +kernel
theorem d10_70 : decode prog_33_method_6_code 70 = .ok (.daload, 1) := by decide +kernel
theorem d10_71 : decode prog_33_method_6_code 71 = .ok (.aload_n 0, 1) := by decide +kernel
theorem d10_72 : decode prog_33_method_6_code 72 = .ok (.getfield 16, 3) := by decide +kernel
theorem d10_75 : decode prog_33_method_6_code 75 = .ok (.aload_n 0, 1) := by decide +kernel
theorem d10_76 : decode prog_33_method_6_code 76 = .ok (.getfield 7, 3) := by decide +kernel
theorem d10_79 : decode prog_33_method_6_code 79 = .ok (.iload 4, 2) := by decide +kernel
theorem d10_81 : decode prog_33_method_6_code 81 = .ok (.iaload, 1) := by decide +kernel
theorem d10_82 : decode prog_33_method_6_code 82 = .ok (.daload, 1) := by decide +kernel
theorem d10_83 : decode prog_33_method_6_code 83 = .ok (.dcmp .g, 1) := by decide +kernel
theorem d10_84 : decode prog_33_method_6_code 84 = .ok (.ifCond .gt 6, 3) := by decide +kernel
theorem d10_87 : decode prog_33_method_6_code 87 = .ok (.goto 21, 3) := by decide +kernel
theorem d10_90 : decode prog_33_method_6_code 90 = .ok (.aload_n 0, 1) := by decide +kernel
theorem d10_91 : decode prog_33_method_6_code 91 = .ok (.iload_n 3, 1) := by decide +kernel
theorem d10_92 : decode prog_33_method_6_code 92 = .ok (.aload_n 0, 1) := by decide +kernel
theorem d10_93 : decode prog_33_method_6_code 93 = .ok (.getfield 7, 3) := by decide +kernel
theorem d10_96 : decode prog_33_method_6_code 96 = .ok (.iload 4, 2) := by decide +kernel
theorem d10_98 : decode prog_33_method_6_code 98 = .ok (.iaload, 1) := by decide +kernel
theorem d10_99 : decode prog_33_method_6_code 99 = .ok (.invokevirtual 37, 3) := by decide +kernel
theorem d10_102 : decode prog_33_method_6_code 102 = .ok (.iload 4, 2) := by decide +kernel
theorem d10_104 : decode prog_33_method_6_code 104 = .ok (.istore_n 3, 1) := by decide +kernel
theorem d10_105 : decode prog_33_method_6_code 105 = .ok (.goto (-103), 3) := by decide +kernel
theorem d10_108 : decode prog_33_method_6_code 108 = .ok (.aload_n 0, 1) := by decide +kernel
theorem d10_109 : decode prog_33_method_6_code 109 = .ok (.iload_n 3, 1) := by decide +kernel
theorem d10_110 : decode prog_33_method_6_code 110 = .ok (.iload_n 2, 1) := by decide +kernel
theorem d10_111 : decode prog_33_method_6_code 111 = .ok (.invokevirtual 37, 3) := by decide +kernel
theorem d10_114 : decode prog_33_method_6_code 114 = .ok (.return_, 1) := by decide +kernel
theorem d11_0 : decode method_3_code 0 = .ok (.iload_n 0, 1) := by decide +kernel
theorem d11_1 : decode method_3_code 1 = .ok (.ifCond .lt 12, 3) := by decide +kernel
theorem d11_4 : decode method_3_code 4 = .ok (.iload_n 0, 1) := by decide +kernel
theorem d11_5 : decode method_3_code 5 = .ok (.iconst 3, 1) := by decide +kernel
theorem d11_6 : decode method_3_code 6 = .ok (.if_icmp .gt 7, 3) := by decide +kernel
theorem d11_9 : decode method_3_code 9 = .ok (.iconst 1, 1) := by decide +kernel
theorem d11_10 : decode method_3_code 10 = .ok (.goto 4, 3) := by decide +kernel
theorem d11_13 : decode method_3_code 13 = .ok (.iconst 0, 1) := by decide +kernel
theorem d11_14 : decode method_3_code 14 = .ok (.ireturn, 1) := by decide +kernel
theorem d12_0 : decode prog_33_method_2_code 0 = .ok (.aload_n 0, 1) := by decide +kernel
theorem d12_1 : decode prog_33_method_2_code 1 = .ok (.getfield 26, 3) := by decide +kernel
theorem d12_4 : decode prog_33_method_2_code 4 = .ok (.ifCond .ne 7, 3) := by decide +kernel
theorem d12_7 : decode prog_33_method_2_code 7 = .ok (.iconst 1, 1) := by decide +kernel
theorem d12_8 : decode prog_33_method_2_code 8 = .ok (.goto 4, 3) := by decide +kernel
theorem d12_11 : decode prog_33_method_2_code 11 = .ok (.iconst 0, 1) := by decide +kernel
theorem d12_12 : decode prog_33_method_2_code 12 = .ok (.ireturn, 1) := by decide +kernel
theorem pd_0 : parseMethodDescriptor "([II)V" = some ⟨[(.array .int), .int], none⟩ := by decide +kernel
theorem pd_1 : parseMethodDescriptor "(II)V" = some ⟨[.int, .int], none⟩ := by decide +kernel
theorem pd_2 : parseMethodDescriptor "(JJ)J" = some ⟨[.long, .long], some .long⟩ := by decide +kernel
theorem pd_3 : parseMethodDescriptor "(I)V" = some ⟨[.int], none⟩ := by decide +kernel
theorem pd_4 : parseMethodDescriptor "(ID)V" = some ⟨[.int, .double], none⟩ := by decide +kernel
theorem pd_5 : parseMethodDescriptor "([J)J" = some ⟨[(.array .long)], some .long⟩ := by decide +kernel
theorem pd_6 : parseMethodDescriptor "()I" = some ⟨[], some .int⟩ := by decide +kernel
theorem pd_7 : parseMethodDescriptor "(I)Z" = some ⟨[.int], some .boolean⟩ := by decide +kernel
theorem pd_8 : parseMethodDescriptor "()Z" = some ⟨[], some .boolean⟩ := by decide +kernel


theorem ow_ladd {x y : Int64} (h : (x.toInt + y.toInt).natAbs < 9223372036854775808) : (x + y).toInt = x.toInt + y.toInt := FP.Core.int64_add (by omega) (by omega)
theorem ow_lsub {x y : Int64} (h : (x.toInt - y.toInt).natAbs < 9223372036854775808) : (x - y).toInt = x.toInt - y.toInt := FP.Core.int64_sub (by omega) (by omega)
theorem ow_lmul {x y : Int64} (h : (x.toInt * y.toInt).natAbs < 9223372036854775808) : (x * y).toInt = x.toInt * y.toInt := FP.Core.int64_mul (by omega) (by omega)

open Jvm.FP.Core (val64) in
/-- no key is a NaN -/
def NNk (K : List UInt64) : Prop := ∀ i : Nat, val64 (K.getD i 0) ≠ .nan
/-- a node's key and its place -/
def kv (K : List UInt64) (x : Int32) : Int := zv (K.getD x.toNatClampNeg 0)
def pv (P : List Int32) (x : Int32) : Int := (P.getD x.toNatClampNeg 0).toInt
theorem own_getD {α : Type} (L : List α) (i j : Nat) (v d : α) (hi : i < L.length) : (L.set i v).getD j d = if i = j then v else L.getD j d := by
  rw [List.getD_eq_getElem?_getD, List.getD_eq_getElem?_getD, List.getElem?_set]
  by_cases h : i = j
  · rw [if_pos h, if_pos h, if_pos (h ▸ hi)]; rfl
  · rw [if_neg h, if_neg h]
theorem own_same {x y : Int32} {N : Int} (hx : 0 ≤ x.toInt ∧ x.toInt < N) (hy : 0 ≤ y.toInt ∧ y.toInt < N) : x.toNatClampNeg = y.toNatClampNeg ↔ x.toInt = y.toInt := by
  show x.toInt.toNat = y.toInt.toNat ↔ _; omega
theorem own_pvs {P : List Int32} {x y v : Int32} {N : Int} {n : Nat} (hl : P.length = n) (hx : 0 ≤ x.toInt ∧ x.toInt < N) (hy : 0 ≤ y.toInt ∧ y.toInt < N) (e : N.toNat = n := by rfl) : pv (P.set x.toNatClampNeg v) y = if x.toInt = y.toInt then v.toInt else pv P y := by
  unfold pv
  rw [own_getD _ _ _ _ _ (own_rgl hx hl e)]
  by_cases h : x.toInt = y.toInt
  · rw [if_pos ((own_same hx hy).mpr h), if_pos h]
  · rw [if_neg (fun q => h ((own_same hx hy).mp q)), if_neg h]
theorem own_kvs {K : List UInt64} {x y : Int32} {v : UInt64} {N : Int} {n : Nat} (hl : K.length = n) (hx : 0 ≤ x.toInt ∧ x.toInt < N) (hy : 0 ≤ y.toInt ∧ y.toInt < N) (e : N.toNat = n := by rfl) : kv (K.set x.toNatClampNeg v) y = if x.toInt = y.toInt then zv v else kv K y := by
  unfold kv
  rw [own_getD _ _ _ _ _ (own_rgl hx hl e)]
  by_cases h : x.toInt = y.toInt
  · rw [if_pos ((own_same hx hy).mpr h), if_pos h]
  · rw [if_neg (fun q => h ((own_same hx hy).mp q)), if_neg h]
theorem own_nnk {K : List UInt64} {i : Nat} {v : UInt64} (h : NNk K) (hv : FP.Core.val64 v ≠ .nan) (hi : i < K.length) : NNk (K.set i v) := fun j => by
  rw [own_getD _ _ _ _ _ hi]
  by_cases q : i = j
  · rw [if_pos q]; exact hv
  · rw [if_neg q]; exact h j
theorem own_kle {K : List UInt64} (h : NNk K) (x y : Int32) : dle (K.getD x.toNatClampNeg 0) (K.getD y.toNatClampNeg 0) ↔ kv K x ≤ kv K y := by
  unfold dle kv
  have e := FP.Core.dcmp_zval (h x.toNatClampNeg) (h y.toNatClampNeg)
  have e' : FP.dcmp (K.getD x.toNatClampNeg 0) (K.getD y.toNatClampNeg 0) = _ := e
  rw [e', Option.some.injEq, Option.some.injEq, FP.Core.compare_lt_iff, FP.Core.compare_eq_iff]
  unfold zv; omega
theorem own_klt {K : List UInt64} (h : NNk K) (x y : Int32) : dlt (K.getD x.toNatClampNeg 0) (K.getD y.toNatClampNeg 0) ↔ kv K x < kv K y := by
  unfold dlt kv
  have e := FP.Core.dcmp_zval (h x.toNatClampNeg) (h y.toNatClampNeg)
  have e' : FP.dcmp (K.getD x.toNatClampNeg 0) (K.getD y.toNatClampNeg 0) = _ := e
  rw [e', Option.some.injEq, FP.Core.compare_lt_iff]
theorem own_pne {P : List Int32} {x y : Int32} {a b : Int} (h1 : pv P x = a) (h2 : pv P y = b) (h : a ≠ b) : ¬ x.toInt = y.toInt := fun q => h (by
  have e : x = y := Int32.toInt_inj.mp q
  rw [← h1, ← h2, e])

theorem own_pm {P : List Int32} {x i : Int32} {a : Int} (h : pv P x = a) (hi : i.toInt = a) : P.getD x.toNatClampNeg 0 = i := Int32.toInt_inj.mp (h.trans hi.symm)
abbrev Hp1 (a : Int32) (P : List Int32) (K : List UInt64) : Prop := (0 ≤ a.toInt ∧ a.toInt < 4) ∧ pv P a = 0
abbrev Hp2 (a b : Int32) (P : List Int32) (K : List UInt64) : Prop := (0 ≤ a.toInt ∧ a.toInt < 4) ∧ (0 ≤ b.toInt ∧ b.toInt < 4) ∧ pv P a = 0 ∧ pv P b = 1 ∧ kv K a ≤ kv K b
abbrev Hp3 (a b c : Int32) (P : List Int32) (K : List UInt64) : Prop := (0 ≤ a.toInt ∧ a.toInt < 4) ∧ (0 ≤ b.toInt ∧ b.toInt < 4) ∧ (0 ≤ c.toInt ∧ c.toInt < 4) ∧ pv P a = 0 ∧ pv P b = 1 ∧ pv P c = 2 ∧ kv K a ≤ kv K b ∧ kv K a ≤ kv K c
abbrev Hp4 (a b c d : Int32) (P : List Int32) (K : List UInt64) : Prop := (0 ≤ a.toInt ∧ a.toInt < 4) ∧ (0 ≤ b.toInt ∧ b.toInt < 4) ∧ (0 ≤ c.toInt ∧ c.toInt < 4) ∧ (0 ≤ d.toInt ∧ d.toInt < 4) ∧ pv P a = 0 ∧ pv P b = 1 ∧ pv P c = 2 ∧ pv P d = 3 ∧ kv K a ≤ kv K b ∧ kv K a ≤ kv K c ∧ kv K b ≤ kv K d

theorem own_t0 : (0 : Int32).toNatClampNeg = 0 := by decide
theorem own_t1 : (1 : Int32).toNatClampNeg = 1 := by decide
theorem own_t2 : (2 : Int32).toNatClampNeg = 2 := by decide
theorem own_t3 : (3 : Int32).toNatClampNeg = 3 := by decide
theorem own_pv0 {x : Int32} (h : 0 ≤ x.toInt ∧ x.toInt < 4) : pv [(-1 : Int32), (-1 : Int32), (-1 : Int32), (-1 : Int32)] x = -1 := by
  have : x.toInt = 0 ∨ x.toInt = 1 ∨ x.toInt = 2 ∨ x.toInt = 3 := by omega
  unfold pv
  show (([(-1 : Int32), (-1 : Int32), (-1 : Int32), (-1 : Int32)]).getD x.toInt.toNat 0).toInt = -1
  rcases this with e | e | e | e <;> rw [e] <;> rfl
theorem own_nk0 : NNk [(0 : UInt64), (0 : UInt64), (0 : UInt64), (0 : UInt64)] := fun i => by
  have z : FP.Core.val64 0 ≠ .nan := by rw [FP.Core.val64_zero]; exact FP.Core.Datum.noConfusion
  match i with
  | 0 => exact z
  | 1 => exact z
  | 2 => exact z
  | 3 => exact z
  | _ + 4 => exact z
theorem own_maskF : ∀ a b d e : Fin 4, (decide (a = b) || decide (a = d) || decide (a = e) || decide (b = d) || decide (b = e) || decide (d = e) || decide (((((1 : Int32) <<< ((Int32.ofNat a.1) &&& 31)) ||| ((1 : Int32) <<< ((Int32.ofNat b.1) &&& 31))) ||| ((1 : Int32) <<< ((Int32.ofNat d.1) &&& 31))) ||| ((1 : Int32) <<< ((Int32.ofNat e.1) &&& 31)) = (15 : Int32))) = true := by decide +kernel
theorem own_pigF : ∀ a b d e z : Fin 4, (decide (a = b) || decide (a = d) || decide (a = e) || decide (b = d) || decide (b = e) || decide (d = e) || decide (a = z) || decide (b = z) || decide (d = z) || decide (e = z)) = true := by decide +kernel
theorem own_finN {x : Int32} (h : 0 ≤ x.toInt ∧ x.toInt < 4) : ∃ i : Fin 4, x = Int32.ofNat i.1 ∧ (i.1 : Int) = x.toInt := by
  have e0 : (0 : Int32).toInt = 0 := by decide
  have e1 : (1 : Int32).toInt = 1 := by decide
  have e2 : (2 : Int32).toInt = 2 := by decide
  have e3 : (3 : Int32).toInt = 3 := by decide
  have : x.toInt = 0 ∨ x.toInt = 1 ∨ x.toInt = 2 ∨ x.toInt = 3 := by omega
  rcases this with q | q | q | q
  · exact ⟨0, Int32.toInt_inj.mp (q.trans e0.symm), q.symm⟩
  · exact ⟨1, Int32.toInt_inj.mp (q.trans e1.symm), q.symm⟩
  · exact ⟨2, Int32.toInt_inj.mp (q.trans e2.symm), q.symm⟩
  · exact ⟨3, Int32.toInt_inj.mp (q.trans e3.symm), q.symm⟩
/-- four nodes that differ are all the nodes -/
theorem own_pig {a b d e z : Int32} {P : List Int32} {K : List UInt64} (H : Hp4 a b d e P K) (hz : 0 ≤ z.toInt ∧ z.toInt < 4) : a = z ∨ b = z ∨ d = z ∨ e = z := by
  obtain ⟨ra, rb, rd, re, pa, pb, pd, pe, -⟩ := H
  have n1 := own_pne pa pb (by decide); have n2 := own_pne pa pd (by decide); have n3 := own_pne pa pe (by decide); have n4 := own_pne pb pd (by decide); have n5 := own_pne pb pe (by decide); have n6 := own_pne pd pe (by decide)
  obtain ⟨i, ei, fi⟩ := own_finN ra
  obtain ⟨j, ej, fj⟩ := own_finN rb
  obtain ⟨k, ek, fk⟩ := own_finN rd
  obtain ⟨l, el, fl⟩ := own_finN re
  obtain ⟨m, em, fm⟩ := own_finN hz
  have q := own_pigF i j k l m
  simp only [Bool.or_eq_true, decide_eq_true_eq] at q
  rcases q with ((((((((q | q) | q) | q) | q) | q) | q) | q) | q) | q
  · exact absurd (by rw [← fi, ← fj, q]) n1
  · exact absurd (by rw [← fi, ← fk, q]) n2
  · exact absurd (by rw [← fi, ← fl, q]) n3
  · exact absurd (by rw [← fj, ← fk, q]) n4
  · exact absurd (by rw [← fj, ← fl, q]) n5
  · exact absurd (by rw [← fk, ← fl, q]) n6
  · exact Or.inl (by rw [ei, em, q])
  · exact Or.inr (Or.inl (by rw [ej, em, q]))
  · exact Or.inr (Or.inr (Or.inl (by rw [ek, em, q])))
  · exact Or.inr (Or.inr (Or.inr (by rw [el, em, q])))
theorem own_least {a b d e z : Int32} {P : List Int32} {K : List UInt64} (H : Hp4 a b d e P K) (hz : 0 ≤ z.toInt ∧ z.toInt < 4) : kv K a ≤ kv K z := by
  obtain ⟨-, -, -, -, -, -, -, -, o1, o2, o3⟩ := id H
  rcases own_pig H hz with rfl | rfl | rfl | rfl <;> omega
theorem own_mask15 {a b d e : Int32} (ra : 0 ≤ a.toInt ∧ a.toInt < 4) (rb : 0 ≤ b.toInt ∧ b.toInt < 4) (rd : 0 ≤ d.toInt ∧ d.toInt < 4) (re : 0 ≤ e.toInt ∧ e.toInt < 4) (n1 : ¬ a.toInt = b.toInt) (n2 : ¬ a.toInt = d.toInt) (n3 : ¬ a.toInt = e.toInt) (n4 : ¬ b.toInt = d.toInt) (n5 : ¬ b.toInt = e.toInt) (n6 : ¬ d.toInt = e.toInt) :
    ((((1 : Int32) <<< (a &&& 31)) ||| ((1 : Int32) <<< (b &&& 31))) ||| ((1 : Int32) <<< (d &&& 31))) ||| ((1 : Int32) <<< (e &&& 31)) = (15 : Int32) := by
  obtain ⟨i, ei, fi⟩ := own_finN ra
  obtain ⟨j, ej, fj⟩ := own_finN rb
  obtain ⟨k, ek, fk⟩ := own_finN rd
  obtain ⟨l, el, fl⟩ := own_finN re
  have q := own_maskF i j k l
  simp only [Bool.or_eq_true, decide_eq_true_eq] at q
  rw [← ei, ← ej, ← ek, ← el] at q
  rcases q with (((((q | q) | q) | q) | q) | q) | q
  · exact absurd (by rw [← fi, ← fj, q]) n1
  · exact absurd (by rw [← fi, ← fk, q]) n2
  · exact absurd (by rw [← fi, ← fl, q]) n3
  · exact absurd (by rw [← fj, ← fk, q]) n4
  · exact absurd (by rw [← fj, ← fl, q]) n5
  · exact absurd (by rw [← fk, ← fl, q]) n6
  · exact q

/-- the law's own long array and the heap's keys -/
def Rel (K : List UInt64) (A : List Int64) : Prop := ∀ z : Int32, (0 ≤ z.toInt ∧ z.toInt < 4) → kv K z = (A.getD z.toNatClampNeg 0).toInt * uu
theorem own_d1 {v : UInt64} {p : Int32} (D : Dy v p.toInt 0) : zv v = (p.toInt64).toInt * uu := by
  rw [c_i2l]; have q := D.2; rwa [show ((2 ^ 0 : Nat) : Int) = 1 from rfl, Int.mul_one] at q
theorem own_rel {v0 v1 v2 v3 : UInt64} {p0 p1 p2 p3 : Int32} (D0 : Dy v0 p0.toInt 0) (D1 : Dy v1 p1.toInt 0) (D2 : Dy v2 p2.toInt 0) (D3 : Dy v3 p3.toInt 0) : Rel [v0, v1, v2, v3] [(p0.toInt64), (p1.toInt64), (p2.toInt64), (p3.toInt64)] := fun z hz => by
  have : z.toInt = 0 ∨ z.toInt = 1 ∨ z.toInt = 2 ∨ z.toInt = 3 := by omega
  unfold kv
  show zv ([v0, v1, v2, v3].getD z.toInt.toNat 0) = ([(p0.toInt64), (p1.toInt64), (p2.toInt64), (p3.toInt64)].getD z.toInt.toNat 0).toInt * uu
  rcases this with e | e | e | e <;> rw [e]
  · exact own_d1 D0
  · exact own_d1 D1
  · exact own_d1 D2
  · exact own_d1 D3
theorem own_relset {K : List UInt64} {A : List Int64} {v : UInt64} {p w : Int32} (R : Rel K A) (D : Dy v p.toInt 0) (rw_ : 0 ≤ w.toInt ∧ w.toInt < 4) (hK : K.length = 4) (hA : A.length = 4) : Rel (K.set w.toNatClampNeg v) (A.set w.toNatClampNeg (p.toInt64)) := fun z hz => by
  rw [own_kvs hK rw_ hz, own_getD _ _ _ _ _ (own_rgl rw_ hA)]
  by_cases h : w.toInt = z.toInt
  · rw [if_pos h, if_pos ((own_same rw_ hz).mpr h)]; exact own_d1 D
  · rw [if_neg h, if_neg (fun q => h ((own_same rw_ hz).mp q))]; exact R z hz
theorem own_relle {K : List UInt64} {A : List Int64} (R : Rel K A) {x y : Int32} (hx : 0 ≤ x.toInt ∧ x.toInt < 4) (hy : 0 ≤ y.toInt ∧ y.toInt < 4) (h : kv K x ≤ kv K y) : (A.getD x.toNatClampNeg 0).toInt ≤ (A.getD y.toNatClampNeg 0).toInt := by
  rw [R x hx, R y hy] at h
  exact Int.le_of_mul_le_mul_right h uu_pos
theorem own_mn (x y : Int64) : ((if y < x then y else x).toInt ≤ x.toInt ∧ (if y < x then y else x).toInt ≤ y.toInt) ∧ ((if y < x then y else x) = x ∨ (if y < x then y else x) = y) := by
  by_cases h : y < x
  · rw [if_pos h]; rw [Int64.lt_iff_toInt_lt] at h; exact ⟨⟨by omega, by omega⟩, Or.inr rfl⟩
  · rw [if_neg h]; rw [Int64.lt_iff_toInt_lt] at h; exact ⟨⟨by omega, by omega⟩, Or.inl rfl⟩
theorem own_min4 {A : List Int64} {r : Int64} (q : (if (if (A.getD 3 0) < (A.getD 2 0) then (A.getD 3 0) else (A.getD 2 0)) < (if (A.getD 1 0) < (A.getD 0 0) then (A.getD 1 0) else (A.getD 0 0)) then (if (A.getD 3 0) < (A.getD 2 0) then (A.getD 3 0) else (A.getD 2 0)) else (if (A.getD 1 0) < (A.getD 0 0) then (A.getD 1 0) else (A.getD 0 0))) = r) : (r.toInt ≤ (A.getD 0 0).toInt ∧ r.toInt ≤ (A.getD 1 0).toInt ∧ r.toInt ≤ (A.getD 2 0).toInt ∧ r.toInt ≤ (A.getD 3 0).toInt) ∧ (r = A.getD 0 0 ∨ r = A.getD 1 0 ∨ r = A.getD 2 0 ∨ r = A.getD 3 0) := by
  have a := own_mn (A.getD 0 0) (A.getD 1 0)
  have b := own_mn (A.getD 2 0) (A.getD 3 0)
  rw [← q]
  generalize (if A.getD 1 0 < A.getD 0 0 then A.getD 1 0 else A.getD 0 0) = x at *
  generalize (if A.getD 3 0 < A.getD 2 0 then A.getD 3 0 else A.getD 2 0) = y at *
  have d := own_mn x y
  generalize (if y < x then y else x) = z at *
  refine ⟨⟨by omega, by omega, by omega, by omega⟩, ?_⟩
  rcases d.2 with rfl | rfl
  · rcases a.2 with e | e
    · exact Or.inl e
    · exact Or.inr (Or.inl e)
  · rcases b.2 with e | e
    · exact Or.inr (Or.inr (Or.inl e))
    · exact Or.inr (Or.inr (Or.inr e))
theorem own_isleast {a b d e : Int32} {P : List Int32} {K : List UInt64} {A : List Int64} {r : Int64} (H : Hp4 a b d e P K) (R : Rel K A) (q : (if (if (A.getD 3 0) < (A.getD 2 0) then (A.getD 3 0) else (A.getD 2 0)) < (if (A.getD 1 0) < (A.getD 0 0) then (A.getD 1 0) else (A.getD 0 0)) then (if (A.getD 3 0) < (A.getD 2 0) then (A.getD 3 0) else (A.getD 2 0)) else (if (A.getD 1 0) < (A.getD 0 0) then (A.getD 1 0) else (A.getD 0 0))) = r) : A.getD a.toNatClampNeg 0 = r := by
  have m := own_min4 q
  have ra := H.1
  have L : ∀ z : Int32, (0 ≤ z.toInt ∧ z.toInt < 4) → (A.getD a.toNatClampNeg 0).toInt ≤ (A.getD z.toNatClampNeg 0).toInt := fun z hz => own_relle R ra hz (own_least H hz)
  have l0 := L 0 (by decide); have l1 := L 1 (by decide); have l2 := L 2 (by decide); have l3 := L 3 (by decide)
  rw [own_t0] at l0; rw [own_t1] at l1; rw [own_t2] at l2; rw [own_t3] at l3
  refine Int64.toInt_inj.mp ?_
  have c1 : (A.getD a.toNatClampNeg 0).toInt ≤ r.toInt := by rcases m.2 with rfl | rfl | rfl | rfl <;> assumption
  have c2 : r.toInt ≤ (A.getD a.toNatClampNeg 0).toInt := by
    have : a.toInt = 0 ∨ a.toInt = 1 ∨ a.toInt = 2 ∨ a.toInt = 3 := by omega
    show _ ≤ (A.getD a.toInt.toNat 0).toInt
    rcases this with g | g | g | g <;> rw [g]
    · exact m.1.1
    · exact m.1.2.1
    · exact m.1.2.2.1
    · exact m.1.2.2.2
  omega
theorem own_okr {x w : Int32} (h : 0 ≤ x.toInt ∧ x.toInt < 4) (q : (if x < 0 then (0 : Int32) else (if (3 : Int32) < x then (0 : Int32) else (1 : Int32))) = w) : ¬ (w = 0) := by
  have e0 : (0 : Int32).toInt = 0 := by decide
  have e3 : (3 : Int32).toInt = 3 := by decide
  rw [if_neg (by rw [Int32.lt_iff_toInt_lt]; omega), if_neg (by rw [Int32.lt_iff_toInt_lt]; omega)] at q
  rw [← q]; decide

theorem ef3 (m : MethodId) (x0 : Addr) : entryFrame m #[(.ref x0), (.int (-1 : Int32))] 4 = mkF m 0 #[.val (.ref x0), .val (.int (-1 : Int32)), .unset, .unset] [] := by first | (simp [entryFrame, mkF, argsToLocals, Value.category]; done) | rfl
def Q3 (Z : State) (o0 : Addr) (e0 : Int32) (e1 : Int32) (e2 : Int32) (e3 : Int32) (h0 : Heap) (n0 : Nat) (v : Option Value) (h : Heap) (L : List Loc) : Prop := v = none ∧ Fr n0 L ∧ Keep h0 h [o0] ∧ Ary tr Z h o0 .int [(.int (-1 : Int32)), (.int (-1 : Int32)), (.int (-1 : Int32)), (.int (-1 : Int32))]
set_option maxRecDepth 65536 in
set_option maxHeartbeats 40000000 in
theorem rm3 (l : Launch) (Z : State) (a0 : Array Value) (hw : ∀ d ∈ tables_1, d.before a0 Z = true) (ws : List Jvm.Cond) (o0 : Addr) (e0 : Int32) (e1 : Int32) (e2 : Int32) (e3 : Int32) (h0 : Heap) (n0 : Nat) (Z0 : n0 ≤ h0.size) (V_o0 : Ary tr Z h0 o0 .int [(.int e0), (.int e1), (.int e2), (.int e3)]) (g_o0 : n0 ≤ o0) :
    MetFree l (⟨"java/util/Arrays", "fill", "([II)V"⟩ : MethodName) (head1 (Jvm.Cond.code (⟨"java/util/Arrays", "fill", "([II)V"⟩ : MethodName) jdk_65_method_103_code 4 none :: ws) ({ frames := 0, cells := 0, slots := 0, locals := 0 } : Room)) (fun a U => a = #[(.ref o0), (.int (-1 : Int32))] ∧ Z.Warmed39 U.vm ∧ U.heap = h0) (fun _ _ _ _ _ => True) (fun _ U o U' => ∃ v L, o = .returned v ∧ Q3 Z o0 e0 e1 e2 e3 h0 n0 v U'.heap L ∧ FrameEnd U o U' L ({ frames := 0, cells := 0, slots := 0, locals := 0 } : Room).cells ({ frames := 0, cells := 0, slots := 0, locals := 0 } : Room).slots) := by
  refine MetFree.of_bodySF (plainFor_of_name pn_java_util_Arrays) hisR ?_
  intro p e s m args below meth c s₁ Bd hml0 hP hK
  obtain ⟨rfl, hZ, hh⟩ := hP
  have hx := Bd.exec
  have hby := Bd.bytes
  have hml : c.maxLocals = 4 := hml0
  have hown : s.vm.findClass "java/util/Arrays" = some m.cls := findClass_of_methodNamed Bd.named
  have hnm := (name_of_methodNamed Bd.named Bd.method).1
  have X0 : Stand p l e ({ frames := 0, cells := 0, slots := 0, locals := 0 } : Room) s m #[(.ref o0), (.int (-1 : Int32))] below meth c s₁ [] 0 0 := Stand.of_body Bd
  have eH0 : s₁.heap = h0 := by rw [← hh, Bd.state]; rfl
  have N0 := Fr.nil n0
  have K0 := Keep.refl h0 [o0]
  show Gt p.tables e below (fun o U' => ∃ v L, o = .returned v ∧ Q3 Z o0 e0 e1 e2 e3 h0 n0 v U'.heap L ∧ FrameEnd s o U' L ({ frames := 0, cells := 0, slots := 0, locals := 0 } : Room).cells ({ frames := 0, cells := 0, slots := 0, locals := 0 } : Room).slots) _
  refine own_cast (ef3 m o0) ?_
  refine own_iconst X0 hx hby (v := (0 : Int32)) (by decide) d3_0 (pc' := 1) rfl ?_
  refine own_istoreN X0 hx hby (L' := #[.val (.ref o0), .val (.int (-1 : Int32)), .val (.int (0 : Int32)), .unset]) rfl d3_1 (pc' := 2) rfl ?_
  refine own_aloadN X0 hx hby rfl rfl d3_2 (pc' := 3) rfl ?_
  refine own_alen X0 hx hby hZ eH0 V_o0 (z := (4 : Int32)) (by first | rfl | decide) d3_3 (pc' := 4) rfl ?_
  refine own_istoreN X0 hx hby (L' := #[.val (.ref o0), .val (.int (-1 : Int32)), .val (.int (0 : Int32)), .val (.int (4 : Int32))]) rfl d3_4 (pc' := 5) rfl ?_
  refine own_iloadN X0 hx hby rfl d3_5 (pc' := 6) rfl ?_
  refine own_iloadN X0 hx hby rfl d3_6 (pc' := 7) rfl ?_
  refine own_icF X0 hx hby d3_7 (by decide) (pc' := 10) rfl ?_
  refine own_aloadN X0 hx hby rfl rfl d3_10 (pc' := 11) rfl ?_
  refine own_iloadN X0 hx hby rfl d3_11 (pc' := 12) rfl ?_
  refine own_iloadN X0 hx hby rfl d3_12 (pc' := 13) rfl ?_
  refine own_iastore X0 hx hby hZ eH0 V_o0 (by decide) (n := 0) (by decide) (of_decide_eq_true rfl) d3_13 (pc' := 14) rfl (fun T1 h1 X1 eH1 W1 => ?_)
  have N1 := Fr.snoc X1 N0 g_o0
  replace K0 := K0.wr W1 (Or.inl (by simp))
  replace Z0 := Nat.le_trans Z0 (Nat.le_of_eq W1.size.symm)
  replace V_o0 : Ary tr Z h1 o0 .int [(.int (-1 : Int32)), (.int e1), (.int e2), (.int e3)] := V_o0.set W1
  refine own_iinc X1 hx hby rfl (L' := #[.val (.ref o0), .val (.int (-1 : Int32)), .val (.int (1 : Int32)), .val (.int (4 : Int32))]) rfl d3_14 (pc' := 17) rfl ?_
  refine own_goto X1 hx hby d3_17 (by decide) (pc' := 5) (by decide) ?_
  refine own_iloadN X1 hx hby rfl d3_5 (pc' := 6) rfl ?_
  refine own_iloadN X1 hx hby rfl d3_6 (pc' := 7) rfl ?_
  refine own_icF X1 hx hby d3_7 (by decide) (pc' := 10) rfl ?_
  refine own_aloadN X1 hx hby rfl rfl d3_10 (pc' := 11) rfl ?_
  refine own_iloadN X1 hx hby rfl d3_11 (pc' := 12) rfl ?_
  refine own_iloadN X1 hx hby rfl d3_12 (pc' := 13) rfl ?_
  refine own_iastore X1 hx hby hZ eH1 V_o0 (by decide) (n := 1) (by decide) (of_decide_eq_true rfl) d3_13 (pc' := 14) rfl (fun T2 h2 X2 eH2 W2 => ?_)
  have N2 := Fr.snoc X2 N1 g_o0
  replace K0 := K0.wr W2 (Or.inl (by simp))
  replace Z0 := Nat.le_trans Z0 (Nat.le_of_eq W2.size.symm)
  replace V_o0 : Ary tr Z h2 o0 .int [(.int (-1 : Int32)), (.int (-1 : Int32)), (.int e2), (.int e3)] := V_o0.set W2
  refine own_iinc X2 hx hby rfl (L' := #[.val (.ref o0), .val (.int (-1 : Int32)), .val (.int (2 : Int32)), .val (.int (4 : Int32))]) rfl d3_14 (pc' := 17) rfl ?_
  refine own_goto X2 hx hby d3_17 (by decide) (pc' := 5) (by decide) ?_
  refine own_iloadN X2 hx hby rfl d3_5 (pc' := 6) rfl ?_
  refine own_iloadN X2 hx hby rfl d3_6 (pc' := 7) rfl ?_
  refine own_icF X2 hx hby d3_7 (by decide) (pc' := 10) rfl ?_
  refine own_aloadN X2 hx hby rfl rfl d3_10 (pc' := 11) rfl ?_
  refine own_iloadN X2 hx hby rfl d3_11 (pc' := 12) rfl ?_
  refine own_iloadN X2 hx hby rfl d3_12 (pc' := 13) rfl ?_
  refine own_iastore X2 hx hby hZ eH2 V_o0 (by decide) (n := 2) (by decide) (of_decide_eq_true rfl) d3_13 (pc' := 14) rfl (fun T3 h3 X3 eH3 W3 => ?_)
  have N3 := Fr.snoc X3 N2 g_o0
  replace K0 := K0.wr W3 (Or.inl (by simp))
  replace Z0 := Nat.le_trans Z0 (Nat.le_of_eq W3.size.symm)
  replace V_o0 : Ary tr Z h3 o0 .int [(.int (-1 : Int32)), (.int (-1 : Int32)), (.int (-1 : Int32)), (.int e3)] := V_o0.set W3
  refine own_iinc X3 hx hby rfl (L' := #[.val (.ref o0), .val (.int (-1 : Int32)), .val (.int (3 : Int32)), .val (.int (4 : Int32))]) rfl d3_14 (pc' := 17) rfl ?_
  refine own_goto X3 hx hby d3_17 (by decide) (pc' := 5) (by decide) ?_
  refine own_iloadN X3 hx hby rfl d3_5 (pc' := 6) rfl ?_
  refine own_iloadN X3 hx hby rfl d3_6 (pc' := 7) rfl ?_
  refine own_icF X3 hx hby d3_7 (by decide) (pc' := 10) rfl ?_
  refine own_aloadN X3 hx hby rfl rfl d3_10 (pc' := 11) rfl ?_
  refine own_iloadN X3 hx hby rfl d3_11 (pc' := 12) rfl ?_
  refine own_iloadN X3 hx hby rfl d3_12 (pc' := 13) rfl ?_
  refine own_iastore X3 hx hby hZ eH3 V_o0 (by decide) (n := 3) (by decide) (of_decide_eq_true rfl) d3_13 (pc' := 14) rfl (fun T4 h4 X4 eH4 W4 => ?_)
  have N4 := Fr.snoc X4 N3 g_o0
  replace K0 := K0.wr W4 (Or.inl (by simp))
  replace Z0 := Nat.le_trans Z0 (Nat.le_of_eq W4.size.symm)
  replace V_o0 : Ary tr Z h4 o0 .int [(.int (-1 : Int32)), (.int (-1 : Int32)), (.int (-1 : Int32)), (.int (-1 : Int32))] := V_o0.set W4
  refine own_iinc X4 hx hby rfl (L' := #[.val (.ref o0), .val (.int (-1 : Int32)), .val (.int (4 : Int32)), .val (.int (4 : Int32))]) rfl d3_14 (pc' := 17) rfl ?_
  refine own_goto X4 hx hby d3_17 (by decide) (pc' := 5) (by decide) ?_
  refine own_iloadN X4 hx hby rfl d3_5 (pc' := 6) rfl ?_
  refine own_iloadN X4 hx hby rfl d3_6 (pc' := 7) rfl ?_
  refine own_icT X4 hx hby d3_7 (by decide) (by decide) (pc' := 20) (by decide) ?_
  exact own_retV X4 hx hby Bd.notSynchronized Bd.returns d3_20 (by decide) (by decide) eH4 ⟨rfl, N4, K0, V_o0⟩
theorem ef1 (m : MethodId) (x0 : Addr) : entryFrame m #[(.ref x0), (.int (4 : Int32))] 2 = mkF m 0 #[.val (.ref x0), .val (.int (4 : Int32))] [] := by first | (simp [entryFrame, mkF, argsToLocals, Value.category]; done) | rfl
def Q1 (Z : State) (o0 : Addr) (u_heap_o0 : Value) (u_position_o0 : Value) (u_key_o0 : Value) (size_o0 : Int32) (h0 : Heap) (n0 : Nat) (v : Option Value) (h : Heap) (L : List Loc) : Prop := ∃ b2 b4 b6 : Addr, v = none ∧ Fr n0 L ∧ Keep h0 h [o0] ∧ h0.size ≤ b2 ∧ h0.size ≤ b4 ∧ h0.size ≤ b6 ∧ b2 ≠ b4 ∧ b2 ≠ b6 ∧ b4 ≠ b6 ∧ Exa Z h o0 "com/example/cross_town/crosstown/solve/NodeHeap" ∧ Fld Z h o0 "com/example/cross_town/crosstown/solve/NodeHeap" "heap" "[I" (.ref b2) ∧ Fld Z h o0 "com/example/cross_town/crosstown/solve/NodeHeap" "position" "[I" (.ref b4) ∧ Fld Z h o0 "com/example/cross_town/crosstown/solve/NodeHeap" "key" "[D" (.ref b6) ∧ Fld Z h o0 "com/example/cross_town/crosstown/solve/NodeHeap" "size" "I" (.int size_o0) ∧ Exa Z h b2 "[I" ∧ Ary tr Z h b2 .int [(.int (0 : Int32)), (.int (0 : Int32)), (.int (0 : Int32)), (.int (0 : Int32))] ∧ Exa Z h b4 "[I" ∧ Ary tr Z h b4 .int [(.int (-1 : Int32)), (.int (-1 : Int32)), (.int (-1 : Int32)), (.int (-1 : Int32))] ∧ Exa Z h b6 "[D" ∧ Ary tr Z h b6 .double [(.double (0 : UInt64)), (.double (0 : UInt64)), (.double (0 : UInt64)), (.double (0 : UInt64))]
set_option maxRecDepth 65536 in
set_option maxHeartbeats 40000000 in
theorem rm1 (l : Launch) (Z : State) (a0 : Array Value) (hw : ∀ d ∈ tables_1, d.before a0 Z = true) (ws : List Jvm.Cond) (o0 : Addr) (u_heap_o0 : Value) (u_position_o0 : Value) (u_key_o0 : Value) (size_o0 : Int32) (h0 : Heap) (n0 : Nat) (Z0 : n0 ≤ h0.size) (F_o0_heap : Fld Z h0 o0 "com/example/cross_town/crosstown/solve/NodeHeap" "heap" "[I" u_heap_o0) (F_o0_position : Fld Z h0 o0 "com/example/cross_town/crosstown/solve/NodeHeap" "position" "[I" u_position_o0) (F_o0_key : Fld Z h0 o0 "com/example/cross_town/crosstown/solve/NodeHeap" "key" "[D" u_key_o0) (F_o0_size : Fld Z h0 o0 "com/example/cross_town/crosstown/solve/NodeHeap" "size" "I" (.int size_o0)) (E_o0 : Exa Z h0 o0 "com/example/cross_town/crosstown/solve/NodeHeap") (g_o0 : n0 ≤ o0) :
    MetFree l (⟨"com/example/cross_town/crosstown/solve/NodeHeap", "<init>", "(I)V"⟩ : MethodName) (head1 (Jvm.Cond.code (⟨"com/example/cross_town/crosstown/solve/NodeHeap", "<init>", "(I)V"⟩ : MethodName) prog_33_method_1_code 2 none :: ws) ({ frames := 1, cells := 3, slots := 12, locals := 15 } : Room)) (fun a U => a = #[(.ref o0), (.int (4 : Int32))] ∧ Z.Warmed39 U.vm ∧ U.heap = h0) (fun _ _ _ _ _ => True) (fun _ U o U' => ∃ v L, o = .returned v ∧ Q1 Z o0 u_heap_o0 u_position_o0 u_key_o0 size_o0 h0 n0 v U'.heap L ∧ FrameEnd U o U' L ({ frames := 1, cells := 3, slots := 12, locals := 15 } : Room).cells ({ frames := 1, cells := 3, slots := 12, locals := 15 } : Room).slots) := by
  refine MetFree.of_bodySF (plainFor_of_name pn_com_example_cross_town_crosstown_solve_NodeHeap) hisR ?_
  intro p e s m args below meth c s₁ Bd hml0 hP hK
  obtain ⟨rfl, hZ, hh⟩ := hP
  have hx := Bd.exec
  have hby := Bd.bytes
  have hml : c.maxLocals = 2 := hml0
  have hown : s.vm.findClass "com/example/cross_town/crosstown/solve/NodeHeap" = some m.cls := findClass_of_methodNamed Bd.named
  have hnm := (name_of_methodNamed Bd.named Bd.method).1
  have X0 : Stand p l e ({ frames := 1, cells := 3, slots := 12, locals := 15 } : Room) s m #[(.ref o0), (.int (4 : Int32))] below meth c s₁ [] 0 0 := Stand.of_body Bd
  have eH0 : s₁.heap = h0 := by rw [← hh, Bd.state]; rfl
  have N0 := Fr.nil n0
  have K0 := Keep.refl h0 [o0]
  show Gt p.tables e below (fun o U' => ∃ v L, o = .returned v ∧ Q1 Z o0 u_heap_o0 u_position_o0 u_key_o0 size_o0 h0 n0 v U'.heap L ∧ FrameEnd s o U' L ({ frames := 1, cells := 3, slots := 12, locals := 15 } : Room).cells ({ frames := 1, cells := 3, slots := 12, locals := 15 } : Room).slots) _
  refine own_cast (ef1 m o0) ?_
  refine own_aloadN X0 hx hby rfl rfl d1_0 (pc' := 1) rfl ?_
  refine own_initO X0 hx hby hZ hown (hw _ (List.mem_of_getElem? (i := 7) rfl)) (hw _ (List.mem_of_getElem? (i := 8) rfl)) (hw _ (List.mem_of_getElem? (i := 9) rfl)) eH0 (by rw [hml]; rfl) d1_1 (pc' := 4) rfl (by decide) (W := 0) (Nat.le_of_eq rfl) (by decide) (fun T1 X1 eH1 => ?_)
  refine own_aloadN X1 hx hby rfl rfl d1_4 (pc' := 5) rfl ?_
  refine own_iloadN X1 hx hby rfl d1_5 (pc' := 6) rfl ?_
  refine own_newP X1 hx hby hZ (hw _ (List.mem_of_getElem? (i := 10) rfl)) eH1 d1_6 (pc' := 8) rfl (by decide) (N := 4) (by decide) (cap := 4) (by decide) (by decide) (by decide) (by decide) (ad := "[I") (by decide) (fun T2 h2 b2 X2 eH2 E2 g2 E_b2 V_b2 => ?_)
  have g_b2 : n0 ≤ b2 := g2 ▸ Z0
  have sz_b2 : h0.size ≤ b2 := g2 ▸ K0.1
  have ne_o0_b2 : o0 ≠ b2 := Nat.ne_of_lt (g2 ▸ E_o0.lt)
  replace E_o0 := E_o0.ext E2
  replace F_o0_heap := F_o0_heap.ext E2
  replace F_o0_position := F_o0_position.ext E2
  replace F_o0_key := F_o0_key.ext E2
  replace F_o0_size := F_o0_size.ext E2
  replace K0 := K0.ext E2
  replace Z0 := Nat.le_trans Z0 E2.1
  have V_b2 : Ary tr Z h2 b2 .int [(.int (0 : Int32)), (.int (0 : Int32)), (.int (0 : Int32)), (.int (0 : Int32))] := V_b2
  refine own_putF X2 hx hby hZ hown (host := "") (Or.inl (hw _ (List.mem_of_getElem? (i := 11) rfl))) Via.refl eH2 F_o0_heap E_o0 (Or.inr ⟨(hw _ (List.mem_of_getElem? (i := 12) rfl)), rfl, hnm⟩) (hw _ (List.mem_of_getElem? (i := 2) rfl)) (ty := (.array .int)) (by decide) rfl rfl d1_8 (pc' := 11) rfl (fun T3 h3 X3 eH3 W3 => ?_)
  replace E_o0 := E_o0.wr W3
  replace F_o0_heap := F_o0_heap.same W3
  replace F_o0_position := F_o0_position.other W3 (Or.inr (slot_ne (Or.inr (hw _ (List.mem_of_getElem? (i := 14) rfl))) (Or.inr (hw _ (List.mem_of_getElem? (i := 12) rfl))) (by decide) (t := (.array .int)) (t' := (.array .int)) (by decide) (by decide)))
  replace F_o0_key := F_o0_key.other W3 (Or.inr (slot_ne (Or.inr (hw _ (List.mem_of_getElem? (i := 17) rfl))) (Or.inr (hw _ (List.mem_of_getElem? (i := 12) rfl))) (by decide) (t := (.array .double)) (t' := (.array .int)) (by decide) (by decide)))
  replace F_o0_size := F_o0_size.other W3 (Or.inr (slot_ne (Or.inl (hw _ (List.mem_of_getElem? (i := 28) rfl))) (Or.inr (hw _ (List.mem_of_getElem? (i := 12) rfl))) (by decide) (t := .int) (t' := (.array .int)) (by decide) (by decide)))
  replace E_b2 := E_b2.wr W3
  replace V_b2 := V_b2.other W3 (Ne.symm ne_o0_b2)
  have N3 := Fr.snoc X3 N0 g_o0
  replace K0 := K0.wr W3 (Or.inl (by simp))
  replace Z0 := Nat.le_trans Z0 (Nat.le_of_eq W3.size.symm)
  refine own_aloadN X3 hx hby rfl rfl d1_11 (pc' := 12) rfl ?_
  refine own_iloadN X3 hx hby rfl d1_12 (pc' := 13) rfl ?_
  refine own_newP X3 hx hby hZ (hw _ (List.mem_of_getElem? (i := 10) rfl)) eH3 d1_13 (pc' := 15) rfl (by decide) (N := 4) (by decide) (cap := 4) (by decide) (by decide) (by decide) (by decide) (ad := "[I") (by decide) (fun T4 h4 b4 X4 eH4 E4 g4 E_b4 V_b4 => ?_)
  have g_b4 : n0 ≤ b4 := g4 ▸ Z0
  have sz_b4 : h0.size ≤ b4 := g4 ▸ K0.1
  have ne_o0_b4 : o0 ≠ b4 := Nat.ne_of_lt (g4 ▸ E_o0.lt)
  have ne_b2_b4 : b2 ≠ b4 := Nat.ne_of_lt (g4 ▸ E_b2.lt)
  replace E_o0 := E_o0.ext E4
  replace F_o0_heap := F_o0_heap.ext E4
  replace F_o0_position := F_o0_position.ext E4
  replace F_o0_key := F_o0_key.ext E4
  replace F_o0_size := F_o0_size.ext E4
  replace E_b2 := E_b2.ext E4
  replace V_b2 := V_b2.ext E4
  replace K0 := K0.ext E4
  replace Z0 := Nat.le_trans Z0 E4.1
  have V_b4 : Ary tr Z h4 b4 .int [(.int (0 : Int32)), (.int (0 : Int32)), (.int (0 : Int32)), (.int (0 : Int32))] := V_b4
  refine own_putF X4 hx hby hZ hown (host := "") (Or.inl (hw _ (List.mem_of_getElem? (i := 13) rfl))) Via.refl eH4 F_o0_position E_o0 (Or.inr ⟨(hw _ (List.mem_of_getElem? (i := 14) rfl)), rfl, hnm⟩) (hw _ (List.mem_of_getElem? (i := 2) rfl)) (ty := (.array .int)) (by decide) rfl rfl d1_15 (pc' := 18) rfl (fun T5 h5 X5 eH5 W5 => ?_)
  replace E_o0 := E_o0.wr W5
  replace F_o0_heap := F_o0_heap.other W5 (Or.inr (slot_ne (Or.inr (hw _ (List.mem_of_getElem? (i := 12) rfl))) (Or.inr (hw _ (List.mem_of_getElem? (i := 14) rfl))) (by decide) (t := (.array .int)) (t' := (.array .int)) (by decide) (by decide)))
  replace F_o0_position := F_o0_position.same W5
  replace F_o0_key := F_o0_key.other W5 (Or.inr (slot_ne (Or.inr (hw _ (List.mem_of_getElem? (i := 17) rfl))) (Or.inr (hw _ (List.mem_of_getElem? (i := 14) rfl))) (by decide) (t := (.array .double)) (t' := (.array .int)) (by decide) (by decide)))
  replace F_o0_size := F_o0_size.other W5 (Or.inr (slot_ne (Or.inl (hw _ (List.mem_of_getElem? (i := 28) rfl))) (Or.inr (hw _ (List.mem_of_getElem? (i := 14) rfl))) (by decide) (t := .int) (t' := (.array .int)) (by decide) (by decide)))
  replace E_b2 := E_b2.wr W5
  replace V_b2 := V_b2.other W5 (Ne.symm ne_o0_b2)
  replace E_b4 := E_b4.wr W5
  replace V_b4 := V_b4.other W5 (Ne.symm ne_o0_b4)
  have N5 := Fr.snoc X5 N3 g_o0
  replace K0 := K0.wr W5 (Or.inl (by simp))
  replace Z0 := Nat.le_trans Z0 (Nat.le_of_eq W5.size.symm)
  refine own_aloadN X5 hx hby rfl rfl d1_18 (pc' := 19) rfl ?_
  refine own_iloadN X5 hx hby rfl d1_19 (pc' := 20) rfl ?_
  refine own_newP X5 hx hby hZ (hw _ (List.mem_of_getElem? (i := 15) rfl)) eH5 d1_20 (pc' := 22) rfl (by decide) (N := 4) (by decide) (cap := 4) (by decide) (by decide) (by decide) (by decide) (ad := "[D") (by decide) (fun T6 h6 b6 X6 eH6 E6 g6 E_b6 V_b6 => ?_)
  have g_b6 : n0 ≤ b6 := g6 ▸ Z0
  have sz_b6 : h0.size ≤ b6 := g6 ▸ K0.1
  have ne_o0_b6 : o0 ≠ b6 := Nat.ne_of_lt (g6 ▸ E_o0.lt)
  have ne_b2_b6 : b2 ≠ b6 := Nat.ne_of_lt (g6 ▸ E_b2.lt)
  have ne_b4_b6 : b4 ≠ b6 := Nat.ne_of_lt (g6 ▸ E_b4.lt)
  replace E_o0 := E_o0.ext E6
  replace F_o0_heap := F_o0_heap.ext E6
  replace F_o0_position := F_o0_position.ext E6
  replace F_o0_key := F_o0_key.ext E6
  replace F_o0_size := F_o0_size.ext E6
  replace E_b2 := E_b2.ext E6
  replace V_b2 := V_b2.ext E6
  replace E_b4 := E_b4.ext E6
  replace V_b4 := V_b4.ext E6
  replace K0 := K0.ext E6
  replace Z0 := Nat.le_trans Z0 E6.1
  have V_b6 : Ary tr Z h6 b6 .double [(.double (0 : UInt64)), (.double (0 : UInt64)), (.double (0 : UInt64)), (.double (0 : UInt64))] := V_b6
  refine own_putF X6 hx hby hZ hown (host := "") (Or.inl (hw _ (List.mem_of_getElem? (i := 16) rfl))) Via.refl eH6 F_o0_key E_o0 (Or.inr ⟨(hw _ (List.mem_of_getElem? (i := 17) rfl)), rfl, hnm⟩) (hw _ (List.mem_of_getElem? (i := 2) rfl)) (ty := (.array .double)) (by decide) rfl rfl d1_22 (pc' := 25) rfl (fun T7 h7 X7 eH7 W7 => ?_)
  replace E_o0 := E_o0.wr W7
  replace F_o0_heap := F_o0_heap.other W7 (Or.inr (slot_ne (Or.inr (hw _ (List.mem_of_getElem? (i := 12) rfl))) (Or.inr (hw _ (List.mem_of_getElem? (i := 17) rfl))) (by decide) (t := (.array .int)) (t' := (.array .double)) (by decide) (by decide)))
  replace F_o0_position := F_o0_position.other W7 (Or.inr (slot_ne (Or.inr (hw _ (List.mem_of_getElem? (i := 14) rfl))) (Or.inr (hw _ (List.mem_of_getElem? (i := 17) rfl))) (by decide) (t := (.array .int)) (t' := (.array .double)) (by decide) (by decide)))
  replace F_o0_key := F_o0_key.same W7
  replace F_o0_size := F_o0_size.other W7 (Or.inr (slot_ne (Or.inl (hw _ (List.mem_of_getElem? (i := 28) rfl))) (Or.inr (hw _ (List.mem_of_getElem? (i := 17) rfl))) (by decide) (t := .int) (t' := (.array .double)) (by decide) (by decide)))
  replace E_b2 := E_b2.wr W7
  replace V_b2 := V_b2.other W7 (Ne.symm ne_o0_b2)
  replace E_b4 := E_b4.wr W7
  replace V_b4 := V_b4.other W7 (Ne.symm ne_o0_b4)
  replace E_b6 := E_b6.wr W7
  replace V_b6 := V_b6.other W7 (Ne.symm ne_o0_b6)
  have N7 := Fr.snoc X7 N5 g_o0
  replace K0 := K0.wr W7 (Or.inl (by simp))
  replace Z0 := Nat.le_trans Z0 (Nat.le_of_eq W7.size.symm)
  refine own_aloadN X7 hx hby rfl rfl d1_25 (pc' := 26) rfl ?_
  refine own_getF X7 hx hby hZ hown (host := "") (Or.inl (hw _ (List.mem_of_getElem? (i := 13) rfl))) Via.refl eH7 F_o0_position d1_26 (pc' := 29) rfl (fun T8 X8 eH8 => ?_)
  refine own_iconst X8 hx hby (v := (-1 : Int32)) (by decide) d1_29 (pc' := 30) rfl ?_
  refine own_static X8 hx hby hZ (y := (⟨"java/util/Arrays", "fill", "([II)V"⟩ : MethodName)) (rest := []) hown (hw _ (List.mem_of_getElem? (i := 18) rfl)) (hw _ (List.mem_of_getElem? (i := 19) rfl)) (hw _ (List.mem_of_getElem? (i := 21) rfl)) (hw _ (List.mem_of_getElem? (i := 20) rfl)) (by decide) (rm3 l Z a0 hw [] b4 (0 : Int32) (0 : Int32) (0 : Int32) (0 : Int32) h7 n0 Z0 V_b4 g_b4) eH8 (by rw [hml]; rfl) (argsL := [(.ref b4), (.int (-1 : Int32))]) rfl (lenOf pd_0 rfl) rfl d1_30 (pc' := 33) rfl (by decide) (W := 0) (Nat.le_of_eq rfl) (by decide) (by decide) (by decide) (fun T9 h9 Lc9 v9r X9 eH9 hQ9 => ?_)
  obtain ⟨rfl, Nq9, Kq9, gq9_0⟩ := hQ9
  have N9 := Fr.app N7 Nq9
  replace E_o0 := E_o0.keep Kq9
  replace F_o0_heap := F_o0_heap.keep Kq9 (ninS ne_o0_b4 nin0)
  replace F_o0_position := F_o0_position.keep Kq9 (ninS ne_o0_b4 nin0)
  replace F_o0_key := F_o0_key.keep Kq9 (ninS ne_o0_b4 nin0)
  replace F_o0_size := F_o0_size.keep Kq9 (ninS ne_o0_b4 nin0)
  replace E_b2 := E_b2.keep Kq9
  replace V_b2 := V_b2.keep Kq9 (ninS ne_b2_b4 nin0)
  replace E_b4 := E_b4.keep Kq9
  replace E_b6 := E_b6.keep Kq9
  replace V_b6 := V_b6.keep Kq9 (ninS (Ne.symm ne_b4_b6) nin0)
  replace K0 := K0.trans Kq9 (allS (Or.inr sz_b4) all0)
  have V_b4 := gq9_0
  replace Z0 := Nat.le_trans Z0 Kq9.1
  exact own_retV X9 hx hby Bd.notSynchronized Bd.returns d1_33 (by decide) (by decide) eH9 ⟨b2, b4, b6, rfl, N9, K0, sz_b2, sz_b4, sz_b6, ne_b2_b4, ne_b2_b6, ne_b4_b6, E_o0, F_o0_heap, F_o0_position, F_o0_key, F_o0_size, E_b2, V_b2, E_b4, V_b4, E_b6, V_b6⟩
theorem ef12 (m : MethodId) (x0 : Addr) : entryFrame m #[(.ref x0)] 1 = mkF m 0 #[.val (.ref x0)] [] := by first | (simp [entryFrame, mkF, argsToLocals, Value.category]; done) | rfl
def Q12 (Z : State) (o0 : Addr) (size_o0 : Int32) (h0 : Heap) (n0 : Nat) (v : Option Value) (h : Heap) (L : List Loc) : Prop := v = some (.int (if size_o0 = 0 then (1 : Int32) else (0 : Int32))) ∧ Fr n0 L ∧ h0 = h
set_option maxRecDepth 65536 in
set_option maxHeartbeats 40000000 in
theorem rm12 (l : Launch) (Z : State) (a0 : Array Value) (hw : ∀ d ∈ tables_1, d.before a0 Z = true) (ws : List Jvm.Cond) (o0 : Addr) (size_o0 : Int32) (h0 : Heap) (n0 : Nat) (Z0 : n0 ≤ h0.size) (F_o0_size : Fld Z h0 o0 "com/example/cross_town/crosstown/solve/NodeHeap" "size" "I" (.int size_o0)) :
    MetFree l (⟨"com/example/cross_town/crosstown/solve/NodeHeap", "isEmpty", "()Z"⟩ : MethodName) (head1 (Jvm.Cond.code (⟨"com/example/cross_town/crosstown/solve/NodeHeap", "isEmpty", "()Z"⟩ : MethodName) prog_33_method_2_code 1 (some .boolean) :: ws) ({ frames := 0, cells := 0, slots := 0, locals := 0 } : Room)) (fun a U => a = #[(.ref o0)] ∧ Z.Warmed39 U.vm ∧ U.heap = h0) (fun _ _ _ _ _ => True) (fun _ U o U' => ∃ v L, o = .returned v ∧ Q12 Z o0 size_o0 h0 n0 v U'.heap L ∧ FrameEnd U o U' L ({ frames := 0, cells := 0, slots := 0, locals := 0 } : Room).cells ({ frames := 0, cells := 0, slots := 0, locals := 0 } : Room).slots) := by
  refine MetFree.of_bodySF (plainFor_of_name pn_com_example_cross_town_crosstown_solve_NodeHeap) hisR ?_
  intro p e s m args below meth c s₁ Bd hml0 hP hK
  obtain ⟨rfl, hZ, hh⟩ := hP
  have hx := Bd.exec
  have hby := Bd.bytes
  have hml : c.maxLocals = 1 := hml0
  have hown : s.vm.findClass "com/example/cross_town/crosstown/solve/NodeHeap" = some m.cls := findClass_of_methodNamed Bd.named
  have hnm := (name_of_methodNamed Bd.named Bd.method).1
  have X0 : Stand p l e ({ frames := 0, cells := 0, slots := 0, locals := 0 } : Room) s m #[(.ref o0)] below meth c s₁ [] 0 0 := Stand.of_body Bd
  have eH0 : s₁.heap = h0 := by rw [← hh, Bd.state]; rfl
  have N0 := Fr.nil n0
  show Gt p.tables e below (fun o U' => ∃ v L, o = .returned v ∧ Q12 Z o0 size_o0 h0 n0 v U'.heap L ∧ FrameEnd s o U' L ({ frames := 0, cells := 0, slots := 0, locals := 0 } : Room).cells ({ frames := 0, cells := 0, slots := 0, locals := 0 } : Room).slots) _
  refine own_cast (ef12 m o0) ?_
  refine own_aloadN X0 hx hby rfl rfl d12_0 (pc' := 1) rfl ?_
  refine own_getF X0 hx hby hZ hown (host := "") (Or.inl (hw _ (List.mem_of_getElem? (i := 27) rfl))) Via.refl eH0 F_o0_size d12_1 (pc' := 4) rfl (fun T1 X1 eH1 => ?_)
  by_cases hc2 : size_o0 = 0
  · refine own_ifF X1 hx hby d12_4 (own_i0_ne_p hc2) (pc' := 7) rfl ?_
    refine own_iconst X1 hx hby (v := (1 : Int32)) (by decide) d12_7 (pc' := 8) rfl ?_
    refine own_goto X1 hx hby d12_8 (by decide) (pc' := 12) (by decide) ?_
    exact own_retZ X1 hx hby Bd.notSynchronized Bd.returns (Or.inr rfl) d12_12 (by decide) (by decide) eH1 ⟨(by rw [if_pos hc2]), N0, rfl⟩
  · refine own_ifT X1 hx hby d12_4 (own_i0_ne_n hc2) (by decide) (pc' := 11) (by decide) ?_
    refine own_iconst X1 hx hby (v := (0 : Int32)) (by decide) d12_11 (pc' := 12) rfl ?_
    exact own_retZ X1 hx hby Bd.notSynchronized Bd.returns (Or.inl rfl) d12_12 (by decide) (by decide) eH1 ⟨(by rw [if_neg hc2]), N0, rfl⟩
theorem ef60 (m : MethodId) (x0 : Addr) (x2 : Int32) : entryFrame m #[(.ref x0), (.int (0 : Int32)), (.int x2)] 3 = mkF m 0 #[.val (.ref x0), .val (.int (0 : Int32)), .val (.int x2)] [] := by first | (simp [entryFrame, mkF, argsToLocals, Value.category]; done) | rfl
def Q60 (Z : State) (o0 : Addr) (p2 : Int32) (heap_o0 : Addr) (position_o0 : Addr) (y0 : Int32) (y1 : Int32) (y2 : Int32) (y3 : Int32) (P : List Int32) (h0 : Heap) (n0 : Nat) (v : Option Value) (h : Heap) (L : List Loc) : Prop := v = none ∧ Fr n0 L ∧ Keep h0 h [heap_o0, position_o0] ∧ Ary tr Z h heap_o0 .int [(.int p2), (.int y1), (.int y2), (.int y3)] ∧ Ary tr Z h position_o0 .int ((P.set p2.toNatClampNeg (0 : Int32)).map Value.int)
set_option maxRecDepth 65536 in
set_option maxHeartbeats 40000000 in
theorem rm60 (l : Launch) (Z : State) (a0 : Array Value) (hw : ∀ d ∈ tables_1, d.before a0 Z = true) (ws : List Jvm.Cond) (o0 : Addr) (p2 : Int32) (heap_o0 : Addr) (position_o0 : Addr) (y0 : Int32) (y1 : Int32) (y2 : Int32) (y3 : Int32) (P : List Int32) (h0 : Heap) (n0 : Nat) (Z0 : n0 ≤ h0.size) (E_o0 : Exa Z h0 o0 "com/example/cross_town/crosstown/solve/NodeHeap") (F_o0_heap : Fld Z h0 o0 "com/example/cross_town/crosstown/solve/NodeHeap" "heap" "[I" (.ref heap_o0)) (F_o0_position : Fld Z h0 o0 "com/example/cross_town/crosstown/solve/NodeHeap" "position" "[I" (.ref position_o0)) (V_heap_o0 : Ary tr Z h0 heap_o0 .int [(.int y0), (.int y1), (.int y2), (.int y3)]) (V_position_o0 : Ary tr Z h0 position_o0 .int (P.map Value.int)) (hl_P : (P.length = 4)) (rg_p2 : (0 ≤ p2.toInt ∧ p2.toInt < 4)) (g_heap_o0 : n0 ≤ heap_o0) (ne_o0_heap_o0 : o0 ≠ heap_o0) (ne_position_o0_heap_o0 : position_o0 ≠ heap_o0) (g_position_o0 : n0 ≤ position_o0) (ne_o0_position_o0 : o0 ≠ position_o0) :
    MetFree l (⟨"com/example/cross_town/crosstown/solve/NodeHeap", "place", "(II)V"⟩ : MethodName) (head1 (Jvm.Cond.code (⟨"com/example/cross_town/crosstown/solve/NodeHeap", "place", "(II)V"⟩ : MethodName) prog_33_method_7_code 3 none :: ws) ({ frames := 0, cells := 0, slots := 0, locals := 0 } : Room)) (fun a U => a = #[(.ref o0), (.int (0 : Int32)), (.int p2)] ∧ Z.Warmed39 U.vm ∧ U.heap = h0) (fun _ _ _ _ _ => True) (fun _ U o U' => ∃ v L, o = .returned v ∧ Q60 Z o0 p2 heap_o0 position_o0 y0 y1 y2 y3 P h0 n0 v U'.heap L ∧ FrameEnd U o U' L ({ frames := 0, cells := 0, slots := 0, locals := 0 } : Room).cells ({ frames := 0, cells := 0, slots := 0, locals := 0 } : Room).slots) := by
  refine MetFree.of_bodySF (plainFor_of_name pn_com_example_cross_town_crosstown_solve_NodeHeap) hisR ?_
  intro p e s m args below meth c s₁ Bd hml0 hP hK
  obtain ⟨rfl, hZ, hh⟩ := hP
  have hx := Bd.exec
  have hby := Bd.bytes
  have hml : c.maxLocals = 3 := hml0
  have hown : s.vm.findClass "com/example/cross_town/crosstown/solve/NodeHeap" = some m.cls := findClass_of_methodNamed Bd.named
  have hnm := (name_of_methodNamed Bd.named Bd.method).1
  have X0 : Stand p l e ({ frames := 0, cells := 0, slots := 0, locals := 0 } : Room) s m #[(.ref o0), (.int (0 : Int32)), (.int p2)] below meth c s₁ [] 0 0 := Stand.of_body Bd
  have eH0 : s₁.heap = h0 := by rw [← hh, Bd.state]; rfl
  have N0 := Fr.nil n0
  have K0 := Keep.refl h0 [heap_o0, position_o0]
  show Gt p.tables e below (fun o U' => ∃ v L, o = .returned v ∧ Q60 Z o0 p2 heap_o0 position_o0 y0 y1 y2 y3 P h0 n0 v U'.heap L ∧ FrameEnd s o U' L ({ frames := 0, cells := 0, slots := 0, locals := 0 } : Room).cells ({ frames := 0, cells := 0, slots := 0, locals := 0 } : Room).slots) _
  refine own_cast (ef60 m o0 p2) ?_
  refine own_aloadN X0 hx hby rfl rfl d6_0 (pc' := 1) rfl ?_
  refine own_getF X0 hx hby hZ hown (host := "") (Or.inl (hw _ (List.mem_of_getElem? (i := 11) rfl))) Via.refl eH0 F_o0_heap d6_1 (pc' := 4) rfl (fun T1 X1 eH1 => ?_)
  refine own_iloadN X1 hx hby rfl d6_4 (pc' := 5) rfl ?_
  refine own_iloadN X1 hx hby rfl d6_5 (pc' := 6) rfl ?_
  refine own_iastore X1 hx hby hZ eH1 V_heap_o0 (by decide) (n := 0) (by decide) (of_decide_eq_true rfl) d6_6 (pc' := 7) rfl (fun T2 h2 X2 eH2 W2 => ?_)
  replace E_o0 := E_o0.wr W2
  replace F_o0_heap := F_o0_heap.other W2 (Or.inl ne_o0_heap_o0)
  replace F_o0_position := F_o0_position.other W2 (Or.inl ne_o0_heap_o0)
  replace V_position_o0 := V_position_o0.other W2 ne_position_o0_heap_o0
  have N2 := Fr.snoc X2 N0 g_heap_o0
  replace K0 := K0.wr W2 (Or.inl (by simp))
  replace Z0 := Nat.le_trans Z0 (Nat.le_of_eq W2.size.symm)
  replace V_heap_o0 : Ary tr Z h2 heap_o0 .int [(.int p2), (.int y1), (.int y2), (.int y3)] := V_heap_o0.set W2
  refine own_aloadN X2 hx hby rfl rfl d6_7 (pc' := 8) rfl ?_
  refine own_getF X2 hx hby hZ hown (host := "") (Or.inl (hw _ (List.mem_of_getElem? (i := 13) rfl))) Via.refl eH2 F_o0_position d6_8 (pc' := 11) rfl (fun T3 X3 eH3 => ?_)
  refine own_iloadN X3 hx hby rfl d6_11 (pc' := 12) rfl ?_
  refine own_iloadN X3 hx hby rfl d6_12 (pc' := 13) rfl ?_
  refine own_iastore X3 hx hby hZ eH3 V_position_o0 (own_rg0 rg_p2) (n := p2.toNatClampNeg) rfl (by rw [List.length_map]; exact own_rgl rg_p2 hl_P) d6_13 (pc' := 14) rfl (fun T4 h4 X4 eH4 W4 => ?_)
  replace E_o0 := E_o0.wr W4
  replace F_o0_heap := F_o0_heap.other W4 (Or.inl ne_o0_position_o0)
  replace F_o0_position := F_o0_position.other W4 (Or.inl ne_o0_position_o0)
  replace V_heap_o0 := V_heap_o0.other W4 (Ne.symm ne_position_o0_heap_o0)
  have N4 := Fr.snoc X4 N2 g_position_o0
  replace K0 := K0.wr W4 (Or.inl (by simp))
  replace Z0 := Nat.le_trans Z0 (Nat.le_of_eq W4.size.symm)
  have hl5 : (P.set p2.toNatClampNeg (0 : Int32)).length = 4 := by rw [List.length_set]; exact hl_P
  replace V_position_o0 : Ary tr Z h4 position_o0 .int ((P.set p2.toNatClampNeg (0 : Int32)).map Value.int) := by rw [List.map_set]; exact V_position_o0.set W4
  exact own_retV X4 hx hby Bd.notSynchronized Bd.returns d6_14 (by decide) (by decide) eH4 ⟨rfl, N4, K0, V_heap_o0, V_position_o0⟩
theorem ef61 (m : MethodId) (x0 : Addr) (x2 : Int32) : entryFrame m #[(.ref x0), (.int (1 : Int32)), (.int x2)] 3 = mkF m 0 #[.val (.ref x0), .val (.int (1 : Int32)), .val (.int x2)] [] := by first | (simp [entryFrame, mkF, argsToLocals, Value.category]; done) | rfl
def Q61 (Z : State) (o0 : Addr) (p2 : Int32) (heap_o0 : Addr) (position_o0 : Addr) (y0 : Int32) (y1 : Int32) (y2 : Int32) (y3 : Int32) (P : List Int32) (h0 : Heap) (n0 : Nat) (v : Option Value) (h : Heap) (L : List Loc) : Prop := v = none ∧ Fr n0 L ∧ Keep h0 h [heap_o0, position_o0] ∧ Ary tr Z h heap_o0 .int [(.int y0), (.int p2), (.int y2), (.int y3)] ∧ Ary tr Z h position_o0 .int ((P.set p2.toNatClampNeg (1 : Int32)).map Value.int)
set_option maxRecDepth 65536 in
set_option maxHeartbeats 40000000 in
theorem rm61 (l : Launch) (Z : State) (a0 : Array Value) (hw : ∀ d ∈ tables_1, d.before a0 Z = true) (ws : List Jvm.Cond) (o0 : Addr) (p2 : Int32) (heap_o0 : Addr) (position_o0 : Addr) (y0 : Int32) (y1 : Int32) (y2 : Int32) (y3 : Int32) (P : List Int32) (h0 : Heap) (n0 : Nat) (Z0 : n0 ≤ h0.size) (E_o0 : Exa Z h0 o0 "com/example/cross_town/crosstown/solve/NodeHeap") (F_o0_heap : Fld Z h0 o0 "com/example/cross_town/crosstown/solve/NodeHeap" "heap" "[I" (.ref heap_o0)) (F_o0_position : Fld Z h0 o0 "com/example/cross_town/crosstown/solve/NodeHeap" "position" "[I" (.ref position_o0)) (V_heap_o0 : Ary tr Z h0 heap_o0 .int [(.int y0), (.int y1), (.int y2), (.int y3)]) (V_position_o0 : Ary tr Z h0 position_o0 .int (P.map Value.int)) (hl_P : (P.length = 4)) (rg_p2 : (0 ≤ p2.toInt ∧ p2.toInt < 4)) (g_heap_o0 : n0 ≤ heap_o0) (ne_o0_heap_o0 : o0 ≠ heap_o0) (ne_position_o0_heap_o0 : position_o0 ≠ heap_o0) (g_position_o0 : n0 ≤ position_o0) (ne_o0_position_o0 : o0 ≠ position_o0) :
    MetFree l (⟨"com/example/cross_town/crosstown/solve/NodeHeap", "place", "(II)V"⟩ : MethodName) (head1 (Jvm.Cond.code (⟨"com/example/cross_town/crosstown/solve/NodeHeap", "place", "(II)V"⟩ : MethodName) prog_33_method_7_code 3 none :: ws) ({ frames := 0, cells := 0, slots := 0, locals := 0 } : Room)) (fun a U => a = #[(.ref o0), (.int (1 : Int32)), (.int p2)] ∧ Z.Warmed39 U.vm ∧ U.heap = h0) (fun _ _ _ _ _ => True) (fun _ U o U' => ∃ v L, o = .returned v ∧ Q61 Z o0 p2 heap_o0 position_o0 y0 y1 y2 y3 P h0 n0 v U'.heap L ∧ FrameEnd U o U' L ({ frames := 0, cells := 0, slots := 0, locals := 0 } : Room).cells ({ frames := 0, cells := 0, slots := 0, locals := 0 } : Room).slots) := by
  refine MetFree.of_bodySF (plainFor_of_name pn_com_example_cross_town_crosstown_solve_NodeHeap) hisR ?_
  intro p e s m args below meth c s₁ Bd hml0 hP hK
  obtain ⟨rfl, hZ, hh⟩ := hP
  have hx := Bd.exec
  have hby := Bd.bytes
  have hml : c.maxLocals = 3 := hml0
  have hown : s.vm.findClass "com/example/cross_town/crosstown/solve/NodeHeap" = some m.cls := findClass_of_methodNamed Bd.named
  have hnm := (name_of_methodNamed Bd.named Bd.method).1
  have X0 : Stand p l e ({ frames := 0, cells := 0, slots := 0, locals := 0 } : Room) s m #[(.ref o0), (.int (1 : Int32)), (.int p2)] below meth c s₁ [] 0 0 := Stand.of_body Bd
  have eH0 : s₁.heap = h0 := by rw [← hh, Bd.state]; rfl
  have N0 := Fr.nil n0
  have K0 := Keep.refl h0 [heap_o0, position_o0]
  show Gt p.tables e below (fun o U' => ∃ v L, o = .returned v ∧ Q61 Z o0 p2 heap_o0 position_o0 y0 y1 y2 y3 P h0 n0 v U'.heap L ∧ FrameEnd s o U' L ({ frames := 0, cells := 0, slots := 0, locals := 0 } : Room).cells ({ frames := 0, cells := 0, slots := 0, locals := 0 } : Room).slots) _
  refine own_cast (ef61 m o0 p2) ?_
  refine own_aloadN X0 hx hby rfl rfl d6_0 (pc' := 1) rfl ?_
  refine own_getF X0 hx hby hZ hown (host := "") (Or.inl (hw _ (List.mem_of_getElem? (i := 11) rfl))) Via.refl eH0 F_o0_heap d6_1 (pc' := 4) rfl (fun T1 X1 eH1 => ?_)
  refine own_iloadN X1 hx hby rfl d6_4 (pc' := 5) rfl ?_
  refine own_iloadN X1 hx hby rfl d6_5 (pc' := 6) rfl ?_
  refine own_iastore X1 hx hby hZ eH1 V_heap_o0 (by decide) (n := 1) (by decide) (of_decide_eq_true rfl) d6_6 (pc' := 7) rfl (fun T2 h2 X2 eH2 W2 => ?_)
  replace E_o0 := E_o0.wr W2
  replace F_o0_heap := F_o0_heap.other W2 (Or.inl ne_o0_heap_o0)
  replace F_o0_position := F_o0_position.other W2 (Or.inl ne_o0_heap_o0)
  replace V_position_o0 := V_position_o0.other W2 ne_position_o0_heap_o0
  have N2 := Fr.snoc X2 N0 g_heap_o0
  replace K0 := K0.wr W2 (Or.inl (by simp))
  replace Z0 := Nat.le_trans Z0 (Nat.le_of_eq W2.size.symm)
  replace V_heap_o0 : Ary tr Z h2 heap_o0 .int [(.int y0), (.int p2), (.int y2), (.int y3)] := V_heap_o0.set W2
  refine own_aloadN X2 hx hby rfl rfl d6_7 (pc' := 8) rfl ?_
  refine own_getF X2 hx hby hZ hown (host := "") (Or.inl (hw _ (List.mem_of_getElem? (i := 13) rfl))) Via.refl eH2 F_o0_position d6_8 (pc' := 11) rfl (fun T3 X3 eH3 => ?_)
  refine own_iloadN X3 hx hby rfl d6_11 (pc' := 12) rfl ?_
  refine own_iloadN X3 hx hby rfl d6_12 (pc' := 13) rfl ?_
  refine own_iastore X3 hx hby hZ eH3 V_position_o0 (own_rg0 rg_p2) (n := p2.toNatClampNeg) rfl (by rw [List.length_map]; exact own_rgl rg_p2 hl_P) d6_13 (pc' := 14) rfl (fun T4 h4 X4 eH4 W4 => ?_)
  replace E_o0 := E_o0.wr W4
  replace F_o0_heap := F_o0_heap.other W4 (Or.inl ne_o0_position_o0)
  replace F_o0_position := F_o0_position.other W4 (Or.inl ne_o0_position_o0)
  replace V_heap_o0 := V_heap_o0.other W4 (Ne.symm ne_position_o0_heap_o0)
  have N4 := Fr.snoc X4 N2 g_position_o0
  replace K0 := K0.wr W4 (Or.inl (by simp))
  replace Z0 := Nat.le_trans Z0 (Nat.le_of_eq W4.size.symm)
  have hl5 : (P.set p2.toNatClampNeg (1 : Int32)).length = 4 := by rw [List.length_set]; exact hl_P
  replace V_position_o0 : Ary tr Z h4 position_o0 .int ((P.set p2.toNatClampNeg (1 : Int32)).map Value.int) := by rw [List.map_set]; exact V_position_o0.set W4
  exact own_retV X4 hx hby Bd.notSynchronized Bd.returns d6_14 (by decide) (by decide) eH4 ⟨rfl, N4, K0, V_heap_o0, V_position_o0⟩
theorem ef62 (m : MethodId) (x0 : Addr) (x2 : Int32) : entryFrame m #[(.ref x0), (.int (2 : Int32)), (.int x2)] 3 = mkF m 0 #[.val (.ref x0), .val (.int (2 : Int32)), .val (.int x2)] [] := by first | (simp [entryFrame, mkF, argsToLocals, Value.category]; done) | rfl
def Q62 (Z : State) (o0 : Addr) (p2 : Int32) (heap_o0 : Addr) (position_o0 : Addr) (y0 : Int32) (y1 : Int32) (y2 : Int32) (y3 : Int32) (P : List Int32) (h0 : Heap) (n0 : Nat) (v : Option Value) (h : Heap) (L : List Loc) : Prop := v = none ∧ Fr n0 L ∧ Keep h0 h [heap_o0, position_o0] ∧ Ary tr Z h heap_o0 .int [(.int y0), (.int y1), (.int p2), (.int y3)] ∧ Ary tr Z h position_o0 .int ((P.set p2.toNatClampNeg (2 : Int32)).map Value.int)
set_option maxRecDepth 65536 in
set_option maxHeartbeats 40000000 in
theorem rm62 (l : Launch) (Z : State) (a0 : Array Value) (hw : ∀ d ∈ tables_1, d.before a0 Z = true) (ws : List Jvm.Cond) (o0 : Addr) (p2 : Int32) (heap_o0 : Addr) (position_o0 : Addr) (y0 : Int32) (y1 : Int32) (y2 : Int32) (y3 : Int32) (P : List Int32) (h0 : Heap) (n0 : Nat) (Z0 : n0 ≤ h0.size) (E_o0 : Exa Z h0 o0 "com/example/cross_town/crosstown/solve/NodeHeap") (F_o0_heap : Fld Z h0 o0 "com/example/cross_town/crosstown/solve/NodeHeap" "heap" "[I" (.ref heap_o0)) (F_o0_position : Fld Z h0 o0 "com/example/cross_town/crosstown/solve/NodeHeap" "position" "[I" (.ref position_o0)) (V_heap_o0 : Ary tr Z h0 heap_o0 .int [(.int y0), (.int y1), (.int y2), (.int y3)]) (V_position_o0 : Ary tr Z h0 position_o0 .int (P.map Value.int)) (hl_P : (P.length = 4)) (rg_p2 : (0 ≤ p2.toInt ∧ p2.toInt < 4)) (g_heap_o0 : n0 ≤ heap_o0) (ne_o0_heap_o0 : o0 ≠ heap_o0) (ne_position_o0_heap_o0 : position_o0 ≠ heap_o0) (g_position_o0 : n0 ≤ position_o0) (ne_o0_position_o0 : o0 ≠ position_o0) :
    MetFree l (⟨"com/example/cross_town/crosstown/solve/NodeHeap", "place", "(II)V"⟩ : MethodName) (head1 (Jvm.Cond.code (⟨"com/example/cross_town/crosstown/solve/NodeHeap", "place", "(II)V"⟩ : MethodName) prog_33_method_7_code 3 none :: ws) ({ frames := 0, cells := 0, slots := 0, locals := 0 } : Room)) (fun a U => a = #[(.ref o0), (.int (2 : Int32)), (.int p2)] ∧ Z.Warmed39 U.vm ∧ U.heap = h0) (fun _ _ _ _ _ => True) (fun _ U o U' => ∃ v L, o = .returned v ∧ Q62 Z o0 p2 heap_o0 position_o0 y0 y1 y2 y3 P h0 n0 v U'.heap L ∧ FrameEnd U o U' L ({ frames := 0, cells := 0, slots := 0, locals := 0 } : Room).cells ({ frames := 0, cells := 0, slots := 0, locals := 0 } : Room).slots) := by
  refine MetFree.of_bodySF (plainFor_of_name pn_com_example_cross_town_crosstown_solve_NodeHeap) hisR ?_
  intro p e s m args below meth c s₁ Bd hml0 hP hK
  obtain ⟨rfl, hZ, hh⟩ := hP
  have hx := Bd.exec
  have hby := Bd.bytes
  have hml : c.maxLocals = 3 := hml0
  have hown : s.vm.findClass "com/example/cross_town/crosstown/solve/NodeHeap" = some m.cls := findClass_of_methodNamed Bd.named
  have hnm := (name_of_methodNamed Bd.named Bd.method).1
  have X0 : Stand p l e ({ frames := 0, cells := 0, slots := 0, locals := 0 } : Room) s m #[(.ref o0), (.int (2 : Int32)), (.int p2)] below meth c s₁ [] 0 0 := Stand.of_body Bd
  have eH0 : s₁.heap = h0 := by rw [← hh, Bd.state]; rfl
  have N0 := Fr.nil n0
  have K0 := Keep.refl h0 [heap_o0, position_o0]
  show Gt p.tables e below (fun o U' => ∃ v L, o = .returned v ∧ Q62 Z o0 p2 heap_o0 position_o0 y0 y1 y2 y3 P h0 n0 v U'.heap L ∧ FrameEnd s o U' L ({ frames := 0, cells := 0, slots := 0, locals := 0 } : Room).cells ({ frames := 0, cells := 0, slots := 0, locals := 0 } : Room).slots) _
  refine own_cast (ef62 m o0 p2) ?_
  refine own_aloadN X0 hx hby rfl rfl d6_0 (pc' := 1) rfl ?_
  refine own_getF X0 hx hby hZ hown (host := "") (Or.inl (hw _ (List.mem_of_getElem? (i := 11) rfl))) Via.refl eH0 F_o0_heap d6_1 (pc' := 4) rfl (fun T1 X1 eH1 => ?_)
  refine own_iloadN X1 hx hby rfl d6_4 (pc' := 5) rfl ?_
  refine own_iloadN X1 hx hby rfl d6_5 (pc' := 6) rfl ?_
  refine own_iastore X1 hx hby hZ eH1 V_heap_o0 (by decide) (n := 2) (by decide) (of_decide_eq_true rfl) d6_6 (pc' := 7) rfl (fun T2 h2 X2 eH2 W2 => ?_)
  replace E_o0 := E_o0.wr W2
  replace F_o0_heap := F_o0_heap.other W2 (Or.inl ne_o0_heap_o0)
  replace F_o0_position := F_o0_position.other W2 (Or.inl ne_o0_heap_o0)
  replace V_position_o0 := V_position_o0.other W2 ne_position_o0_heap_o0
  have N2 := Fr.snoc X2 N0 g_heap_o0
  replace K0 := K0.wr W2 (Or.inl (by simp))
  replace Z0 := Nat.le_trans Z0 (Nat.le_of_eq W2.size.symm)
  replace V_heap_o0 : Ary tr Z h2 heap_o0 .int [(.int y0), (.int y1), (.int p2), (.int y3)] := V_heap_o0.set W2
  refine own_aloadN X2 hx hby rfl rfl d6_7 (pc' := 8) rfl ?_
  refine own_getF X2 hx hby hZ hown (host := "") (Or.inl (hw _ (List.mem_of_getElem? (i := 13) rfl))) Via.refl eH2 F_o0_position d6_8 (pc' := 11) rfl (fun T3 X3 eH3 => ?_)
  refine own_iloadN X3 hx hby rfl d6_11 (pc' := 12) rfl ?_
  refine own_iloadN X3 hx hby rfl d6_12 (pc' := 13) rfl ?_
  refine own_iastore X3 hx hby hZ eH3 V_position_o0 (own_rg0 rg_p2) (n := p2.toNatClampNeg) rfl (by rw [List.length_map]; exact own_rgl rg_p2 hl_P) d6_13 (pc' := 14) rfl (fun T4 h4 X4 eH4 W4 => ?_)
  replace E_o0 := E_o0.wr W4
  replace F_o0_heap := F_o0_heap.other W4 (Or.inl ne_o0_position_o0)
  replace F_o0_position := F_o0_position.other W4 (Or.inl ne_o0_position_o0)
  replace V_heap_o0 := V_heap_o0.other W4 (Ne.symm ne_position_o0_heap_o0)
  have N4 := Fr.snoc X4 N2 g_position_o0
  replace K0 := K0.wr W4 (Or.inl (by simp))
  replace Z0 := Nat.le_trans Z0 (Nat.le_of_eq W4.size.symm)
  have hl5 : (P.set p2.toNatClampNeg (2 : Int32)).length = 4 := by rw [List.length_set]; exact hl_P
  replace V_position_o0 : Ary tr Z h4 position_o0 .int ((P.set p2.toNatClampNeg (2 : Int32)).map Value.int) := by rw [List.map_set]; exact V_position_o0.set W4
  exact own_retV X4 hx hby Bd.notSynchronized Bd.returns d6_14 (by decide) (by decide) eH4 ⟨rfl, N4, K0, V_heap_o0, V_position_o0⟩
theorem ef63 (m : MethodId) (x0 : Addr) (x2 : Int32) : entryFrame m #[(.ref x0), (.int (3 : Int32)), (.int x2)] 3 = mkF m 0 #[.val (.ref x0), .val (.int (3 : Int32)), .val (.int x2)] [] := by first | (simp [entryFrame, mkF, argsToLocals, Value.category]; done) | rfl
def Q63 (Z : State) (o0 : Addr) (p2 : Int32) (heap_o0 : Addr) (position_o0 : Addr) (y0 : Int32) (y1 : Int32) (y2 : Int32) (y3 : Int32) (P : List Int32) (h0 : Heap) (n0 : Nat) (v : Option Value) (h : Heap) (L : List Loc) : Prop := v = none ∧ Fr n0 L ∧ Keep h0 h [heap_o0, position_o0] ∧ Ary tr Z h heap_o0 .int [(.int y0), (.int y1), (.int y2), (.int p2)] ∧ Ary tr Z h position_o0 .int ((P.set p2.toNatClampNeg (3 : Int32)).map Value.int)
set_option maxRecDepth 65536 in
set_option maxHeartbeats 40000000 in
theorem rm63 (l : Launch) (Z : State) (a0 : Array Value) (hw : ∀ d ∈ tables_1, d.before a0 Z = true) (ws : List Jvm.Cond) (o0 : Addr) (p2 : Int32) (heap_o0 : Addr) (position_o0 : Addr) (y0 : Int32) (y1 : Int32) (y2 : Int32) (y3 : Int32) (P : List Int32) (h0 : Heap) (n0 : Nat) (Z0 : n0 ≤ h0.size) (E_o0 : Exa Z h0 o0 "com/example/cross_town/crosstown/solve/NodeHeap") (F_o0_heap : Fld Z h0 o0 "com/example/cross_town/crosstown/solve/NodeHeap" "heap" "[I" (.ref heap_o0)) (F_o0_position : Fld Z h0 o0 "com/example/cross_town/crosstown/solve/NodeHeap" "position" "[I" (.ref position_o0)) (V_heap_o0 : Ary tr Z h0 heap_o0 .int [(.int y0), (.int y1), (.int y2), (.int y3)]) (V_position_o0 : Ary tr Z h0 position_o0 .int (P.map Value.int)) (hl_P : (P.length = 4)) (rg_p2 : (0 ≤ p2.toInt ∧ p2.toInt < 4)) (g_heap_o0 : n0 ≤ heap_o0) (ne_o0_heap_o0 : o0 ≠ heap_o0) (ne_position_o0_heap_o0 : position_o0 ≠ heap_o0) (g_position_o0 : n0 ≤ position_o0) (ne_o0_position_o0 : o0 ≠ position_o0) :
    MetFree l (⟨"com/example/cross_town/crosstown/solve/NodeHeap", "place", "(II)V"⟩ : MethodName) (head1 (Jvm.Cond.code (⟨"com/example/cross_town/crosstown/solve/NodeHeap", "place", "(II)V"⟩ : MethodName) prog_33_method_7_code 3 none :: ws) ({ frames := 0, cells := 0, slots := 0, locals := 0 } : Room)) (fun a U => a = #[(.ref o0), (.int (3 : Int32)), (.int p2)] ∧ Z.Warmed39 U.vm ∧ U.heap = h0) (fun _ _ _ _ _ => True) (fun _ U o U' => ∃ v L, o = .returned v ∧ Q63 Z o0 p2 heap_o0 position_o0 y0 y1 y2 y3 P h0 n0 v U'.heap L ∧ FrameEnd U o U' L ({ frames := 0, cells := 0, slots := 0, locals := 0 } : Room).cells ({ frames := 0, cells := 0, slots := 0, locals := 0 } : Room).slots) := by
  refine MetFree.of_bodySF (plainFor_of_name pn_com_example_cross_town_crosstown_solve_NodeHeap) hisR ?_
  intro p e s m args below meth c s₁ Bd hml0 hP hK
  obtain ⟨rfl, hZ, hh⟩ := hP
  have hx := Bd.exec
  have hby := Bd.bytes
  have hml : c.maxLocals = 3 := hml0
  have hown : s.vm.findClass "com/example/cross_town/crosstown/solve/NodeHeap" = some m.cls := findClass_of_methodNamed Bd.named
  have hnm := (name_of_methodNamed Bd.named Bd.method).1
  have X0 : Stand p l e ({ frames := 0, cells := 0, slots := 0, locals := 0 } : Room) s m #[(.ref o0), (.int (3 : Int32)), (.int p2)] below meth c s₁ [] 0 0 := Stand.of_body Bd
  have eH0 : s₁.heap = h0 := by rw [← hh, Bd.state]; rfl
  have N0 := Fr.nil n0
  have K0 := Keep.refl h0 [heap_o0, position_o0]
  show Gt p.tables e below (fun o U' => ∃ v L, o = .returned v ∧ Q63 Z o0 p2 heap_o0 position_o0 y0 y1 y2 y3 P h0 n0 v U'.heap L ∧ FrameEnd s o U' L ({ frames := 0, cells := 0, slots := 0, locals := 0 } : Room).cells ({ frames := 0, cells := 0, slots := 0, locals := 0 } : Room).slots) _
  refine own_cast (ef63 m o0 p2) ?_
  refine own_aloadN X0 hx hby rfl rfl d6_0 (pc' := 1) rfl ?_
  refine own_getF X0 hx hby hZ hown (host := "") (Or.inl (hw _ (List.mem_of_getElem? (i := 11) rfl))) Via.refl eH0 F_o0_heap d6_1 (pc' := 4) rfl (fun T1 X1 eH1 => ?_)
  refine own_iloadN X1 hx hby rfl d6_4 (pc' := 5) rfl ?_
  refine own_iloadN X1 hx hby rfl d6_5 (pc' := 6) rfl ?_
  refine own_iastore X1 hx hby hZ eH1 V_heap_o0 (by decide) (n := 3) (by decide) (of_decide_eq_true rfl) d6_6 (pc' := 7) rfl (fun T2 h2 X2 eH2 W2 => ?_)
  replace E_o0 := E_o0.wr W2
  replace F_o0_heap := F_o0_heap.other W2 (Or.inl ne_o0_heap_o0)
  replace F_o0_position := F_o0_position.other W2 (Or.inl ne_o0_heap_o0)
  replace V_position_o0 := V_position_o0.other W2 ne_position_o0_heap_o0
  have N2 := Fr.snoc X2 N0 g_heap_o0
  replace K0 := K0.wr W2 (Or.inl (by simp))
  replace Z0 := Nat.le_trans Z0 (Nat.le_of_eq W2.size.symm)
  replace V_heap_o0 : Ary tr Z h2 heap_o0 .int [(.int y0), (.int y1), (.int y2), (.int p2)] := V_heap_o0.set W2
  refine own_aloadN X2 hx hby rfl rfl d6_7 (pc' := 8) rfl ?_
  refine own_getF X2 hx hby hZ hown (host := "") (Or.inl (hw _ (List.mem_of_getElem? (i := 13) rfl))) Via.refl eH2 F_o0_position d6_8 (pc' := 11) rfl (fun T3 X3 eH3 => ?_)
  refine own_iloadN X3 hx hby rfl d6_11 (pc' := 12) rfl ?_
  refine own_iloadN X3 hx hby rfl d6_12 (pc' := 13) rfl ?_
  refine own_iastore X3 hx hby hZ eH3 V_position_o0 (own_rg0 rg_p2) (n := p2.toNatClampNeg) rfl (by rw [List.length_map]; exact own_rgl rg_p2 hl_P) d6_13 (pc' := 14) rfl (fun T4 h4 X4 eH4 W4 => ?_)
  replace E_o0 := E_o0.wr W4
  replace F_o0_heap := F_o0_heap.other W4 (Or.inl ne_o0_position_o0)
  replace F_o0_position := F_o0_position.other W4 (Or.inl ne_o0_position_o0)
  replace V_heap_o0 := V_heap_o0.other W4 (Ne.symm ne_position_o0_heap_o0)
  have N4 := Fr.snoc X4 N2 g_position_o0
  replace K0 := K0.wr W4 (Or.inl (by simp))
  replace Z0 := Nat.le_trans Z0 (Nat.le_of_eq W4.size.symm)
  have hl5 : (P.set p2.toNatClampNeg (3 : Int32)).length = 4 := by rw [List.length_set]; exact hl_P
  replace V_position_o0 : Ary tr Z h4 position_o0 .int ((P.set p2.toNatClampNeg (3 : Int32)).map Value.int) := by rw [List.map_set]; exact V_position_o0.set W4
  exact own_retV X4 hx hby Bd.notSynchronized Bd.returns d6_14 (by decide) (by decide) eH4 ⟨rfl, N4, K0, V_heap_o0, V_position_o0⟩
theorem ef5n0 (m : MethodId) (x0 : Addr) (x2 : Int32) : entryFrame m #[(.ref x0), (.int (0 : Int32)), (.int x2)] 5 = mkF m 0 #[.val (.ref x0), .val (.int (0 : Int32)), .val (.int x2), .unset, .unset] [] := by first | (simp [entryFrame, mkF, argsToLocals, Value.category]; done) | rfl
def Q5n0 (Z : State) (o0 : Addr) (p2 : Int32) (heap_o0 : Addr) (position_o0 : Addr) (key_o0 : Addr) (y0 : Int32) (y1 : Int32) (y2 : Int32) (y3 : Int32) (P : List Int32) (K : List UInt64) (h0 : Heap) (n0 : Nat) (v : Option Value) (h : Heap) (L : List Loc) : Prop := v = none ∧ Fr n0 L ∧ Keep h0 h [position_o0, heap_o0] ∧ Ary tr Z h position_o0 .int ((P.set p2.toNatClampNeg (0 : Int32)).map Value.int) ∧ Ary tr Z h heap_o0 .int [(.int p2), (.int y1), (.int y2), (.int y3)] ∧ (Hp1 p2 (P.set p2.toNatClampNeg (0 : Int32)) K) ∧ (∀ z : Int32, (0 ≤ z.toInt ∧ z.toInt < 4) → ¬ p2.toInt = z.toInt → pv P z = -1 → pv (P.set p2.toNatClampNeg (0 : Int32)) z = -1)
set_option maxRecDepth 65536 in
set_option maxHeartbeats 40000000 in
theorem rm5n0 (l : Launch) (Z : State) (a0 : Array Value) (hw : ∀ d ∈ tables_1, d.before a0 Z = true) (ws : List Jvm.Cond) (o0 : Addr) (p2 : Int32) (heap_o0 : Addr) (position_o0 : Addr) (key_o0 : Addr) (y0 : Int32) (y1 : Int32) (y2 : Int32) (y3 : Int32) (P : List Int32) (K : List UInt64) (h0 : Heap) (n0 : Nat) (Z0 : n0 ≤ h0.size) (E_o0 : Exa Z h0 o0 "com/example/cross_town/crosstown/solve/NodeHeap") (F_o0_heap : Fld Z h0 o0 "com/example/cross_town/crosstown/solve/NodeHeap" "heap" "[I" (.ref heap_o0)) (F_o0_position : Fld Z h0 o0 "com/example/cross_town/crosstown/solve/NodeHeap" "position" "[I" (.ref position_o0)) (F_o0_key : Fld Z h0 o0 "com/example/cross_town/crosstown/solve/NodeHeap" "key" "[D" (.ref key_o0)) (V_heap_o0 : Ary tr Z h0 heap_o0 .int [(.int y0), (.int y1), (.int y2), (.int y3)]) (V_position_o0 : Ary tr Z h0 position_o0 .int (P.map Value.int)) (hl_P : (P.length = 4)) (V_key_o0 : Ary tr Z h0 key_o0 .double (K.map Value.double)) (hl_K : (K.length = 4)) (rg_p2 : (0 ≤ p2.toInt ∧ p2.toInt < 4)) (nnk : (NNk K)) (pv_p2 : (pv P p2 = -1)) (g_heap_o0 : n0 ≤ heap_o0) (ne_o0_heap_o0 : o0 ≠ heap_o0) (ne_position_o0_heap_o0 : position_o0 ≠ heap_o0) (g_position_o0 : n0 ≤ position_o0) (ne_o0_position_o0 : o0 ≠ position_o0) (ne_key_o0_position_o0 : key_o0 ≠ position_o0) (ne_key_o0_heap_o0 : key_o0 ≠ heap_o0) :
    MetFree l (⟨"com/example/cross_town/crosstown/solve/NodeHeap", "siftUp", "(II)V"⟩ : MethodName) (head1 (Jvm.Cond.code (⟨"com/example/cross_town/crosstown/solve/NodeHeap", "siftUp", "(II)V"⟩ : MethodName) prog_33_method_5_code 5 none :: ws) ({ frames := 1, cells := 0, slots := 0, locals := 14 } : Room)) (fun a U => a = #[(.ref o0), (.int (0 : Int32)), (.int p2)] ∧ Z.Warmed39 U.vm ∧ U.heap = h0) (fun _ _ _ _ _ => True) (fun _ U o U' => ∃ v L, o = .returned v ∧ Q5n0 Z o0 p2 heap_o0 position_o0 key_o0 y0 y1 y2 y3 P K h0 n0 v U'.heap L ∧ FrameEnd U o U' L ({ frames := 1, cells := 0, slots := 0, locals := 14 } : Room).cells ({ frames := 1, cells := 0, slots := 0, locals := 14 } : Room).slots) := by
  refine MetFree.of_bodySF (plainFor_of_name pn_com_example_cross_town_crosstown_solve_NodeHeap) hisR ?_
  intro p e s m args below meth c s₁ Bd hml0 hP hK
  obtain ⟨rfl, hZ, hh⟩ := hP
  have hx := Bd.exec
  have hby := Bd.bytes
  have hml : c.maxLocals = 5 := hml0
  have hown : s.vm.findClass "com/example/cross_town/crosstown/solve/NodeHeap" = some m.cls := findClass_of_methodNamed Bd.named
  have hnm := (name_of_methodNamed Bd.named Bd.method).1
  have X0 : Stand p l e ({ frames := 1, cells := 0, slots := 0, locals := 14 } : Room) s m #[(.ref o0), (.int (0 : Int32)), (.int p2)] below meth c s₁ [] 0 0 := Stand.of_body Bd
  have eH0 : s₁.heap = h0 := by rw [← hh, Bd.state]; rfl
  have N0 := Fr.nil n0
  have K0 := Keep.refl h0 [position_o0, heap_o0]
  show Gt p.tables e below (fun o U' => ∃ v L, o = .returned v ∧ Q5n0 Z o0 p2 heap_o0 position_o0 key_o0 y0 y1 y2 y3 P K h0 n0 v U'.heap L ∧ FrameEnd s o U' L ({ frames := 1, cells := 0, slots := 0, locals := 14 } : Room).cells ({ frames := 1, cells := 0, slots := 0, locals := 14 } : Room).slots) _
  refine own_cast (ef5n0 m o0 p2) ?_
  refine own_iloadN X0 hx hby rfl d5_0 (pc' := 1) rfl ?_
  refine own_istoreN X0 hx hby (L' := #[.val (.ref o0), .val (.int (0 : Int32)), .val (.int p2), .val (.int (0 : Int32)), .unset]) rfl d5_1 (pc' := 2) rfl ?_
  refine own_iloadN X0 hx hby rfl d5_2 (pc' := 3) rfl ?_
  refine own_ifT X0 hx hby d5_3 (by decide) (by decide) (pc' := 56) (by decide) ?_
  refine own_aloadN X0 hx hby rfl rfl d5_56 (pc' := 57) rfl ?_
  refine own_iloadN X0 hx hby rfl d5_57 (pc' := 58) rfl ?_
  refine own_iloadN X0 hx hby rfl d5_58 (pc' := 59) rfl ?_
  refine own_private X0 hx hby hZ (y := (⟨"com/example/cross_town/crosstown/solve/NodeHeap", "place", "(II)V"⟩ : MethodName)) (rest := []) hown (hw _ (List.mem_of_getElem? (i := 33) rfl)) (hw _ (List.mem_of_getElem? (i := 34) rfl)) (hw _ (List.mem_of_getElem? (i := 2) rfl)) (hw _ (List.mem_of_getElem? (i := 35) rfl)) (hw _ (List.mem_of_getElem? (i := 36) rfl)) (hw _ (List.mem_of_getElem? (i := 3) rfl)) (by decide) (rm60 l Z a0 hw [] o0 p2 heap_o0 position_o0 y0 y1 y2 y3 P h0 n0 Z0 E_o0 F_o0_heap F_o0_position V_heap_o0 V_position_o0 (by first | assumption | rfl | (simp only [List.length_set]; first | assumption | rfl)) rg_p2 g_heap_o0 ne_o0_heap_o0 ne_position_o0_heap_o0 g_position_o0 ne_o0_position_o0) eH0 (by rw [hml]; rfl) (a := o0) E_o0 (argsL := [(.int (0 : Int32)), (.int p2)]) rfl (lenOf pd_1 rfl) rfl d5_59 (pc' := 62) rfl (by decide) (W := 0) (Nat.le_of_eq rfl) (by decide) (by decide) (by decide) (fun T1 h1 Lc1 v1r X1 eH1 hQ1 => ?_)
  obtain ⟨rfl, Nq1, Kq1, gq1_0, gq1_1⟩ := hQ1
  have N1 := Fr.app N0 Nq1
  replace E_o0 := E_o0.keep Kq1
  replace F_o0_heap := F_o0_heap.keep Kq1 (ninS ne_o0_heap_o0 (ninS ne_o0_position_o0 nin0))
  replace F_o0_position := F_o0_position.keep Kq1 (ninS ne_o0_heap_o0 (ninS ne_o0_position_o0 nin0))
  replace F_o0_key := F_o0_key.keep Kq1 (ninS ne_o0_heap_o0 (ninS ne_o0_position_o0 nin0))
  replace V_key_o0 := V_key_o0.keep Kq1 (ninS ne_key_o0_heap_o0 (ninS ne_key_o0_position_o0 nin0))
  replace K0 := K0.trans Kq1 (allS (Or.inl (by simp)) (allS (Or.inl (by simp)) all0))
  have V_heap_o0 := gq1_0
  have hl2 : (P.set p2.toNatClampNeg (0 : Int32)).length = 4 := by (repeat' split) <;> (simp only [List.length_set]; first | assumption | rfl)
  have V_position_o0 := gq1_1
  replace Z0 := Nat.le_trans Z0 Kq1.1
  have HH : Hp1 p2 (P.set p2.toNatClampNeg (0 : Int32)) K := ⟨rg_p2, (by rw [own_pvs hl_P rg_p2 rg_p2, if_pos rfl]; first | done | decide)⟩
  have HA : ∀ z : Int32, (0 ≤ z.toInt ∧ z.toInt < 4) → ¬ p2.toInt = z.toInt → pv P z = -1 → pv (P.set p2.toNatClampNeg (0 : Int32)) z = -1 := fun z rgz hpz hz => (by rw [own_pvs hl_P rg_p2 rgz, if_neg hpz]; exact hz)
  exact own_retV X1 hx hby Bd.notSynchronized Bd.returns d5_62 (by decide) (by decide) eH1 ⟨rfl, N1, K0, V_position_o0, V_heap_o0, HH, HA⟩
theorem ef5n1 (m : MethodId) (x0 : Addr) (x2 : Int32) : entryFrame m #[(.ref x0), (.int (1 : Int32)), (.int x2)] 5 = mkF m 0 #[.val (.ref x0), .val (.int (1 : Int32)), .val (.int x2), .unset, .unset] [] := by first | (simp [entryFrame, mkF, argsToLocals, Value.category]; done) | rfl
def Q5n1 (Z : State) (o0 : Addr) (p2 : Int32) (heap_o0 : Addr) (position_o0 : Addr) (key_o0 : Addr) (y0 : Int32) (y1 : Int32) (y2 : Int32) (y3 : Int32) (P : List Int32) (K : List UInt64) (h0 : Heap) (n0 : Nat) (v : Option Value) (h : Heap) (L : List Loc) : Prop := v = none ∧ Fr n0 L ∧ Keep h0 h [position_o0, heap_o0] ∧ Ary tr Z h position_o0 .int ((if dle (K.getD y0.toNatClampNeg 0) (K.getD p2.toNatClampNeg 0) then (P.set p2.toNatClampNeg (1 : Int32)) else ((P.set y0.toNatClampNeg (1 : Int32)).set p2.toNatClampNeg (0 : Int32))).map Value.int) ∧ Ary tr Z h heap_o0 .int [(.int (if dle (K.getD y0.toNatClampNeg 0) (K.getD p2.toNatClampNeg 0) then y0 else p2)), (.int (if dle (K.getD y0.toNatClampNeg 0) (K.getD p2.toNatClampNeg 0) then p2 else y0)), (.int y2), (.int y3)] ∧ (Hp2 (if dle (K.getD y0.toNatClampNeg 0) (K.getD p2.toNatClampNeg 0) then y0 else p2) (if dle (K.getD y0.toNatClampNeg 0) (K.getD p2.toNatClampNeg 0) then p2 else y0) (if dle (K.getD y0.toNatClampNeg 0) (K.getD p2.toNatClampNeg 0) then (P.set p2.toNatClampNeg (1 : Int32)) else ((P.set y0.toNatClampNeg (1 : Int32)).set p2.toNatClampNeg (0 : Int32))) K) ∧ (∀ z : Int32, (0 ≤ z.toInt ∧ z.toInt < 4) → ¬ p2.toInt = z.toInt → pv P z = -1 → pv (if dle (K.getD y0.toNatClampNeg 0) (K.getD p2.toNatClampNeg 0) then (P.set p2.toNatClampNeg (1 : Int32)) else ((P.set y0.toNatClampNeg (1 : Int32)).set p2.toNatClampNeg (0 : Int32))) z = -1)
set_option maxRecDepth 65536 in
set_option maxHeartbeats 40000000 in
theorem rm5n1 (l : Launch) (Z : State) (a0 : Array Value) (hw : ∀ d ∈ tables_1, d.before a0 Z = true) (ws : List Jvm.Cond) (o0 : Addr) (p2 : Int32) (heap_o0 : Addr) (position_o0 : Addr) (key_o0 : Addr) (y0 : Int32) (y1 : Int32) (y2 : Int32) (y3 : Int32) (P : List Int32) (K : List UInt64) (h0 : Heap) (n0 : Nat) (Z0 : n0 ≤ h0.size) (E_o0 : Exa Z h0 o0 "com/example/cross_town/crosstown/solve/NodeHeap") (F_o0_heap : Fld Z h0 o0 "com/example/cross_town/crosstown/solve/NodeHeap" "heap" "[I" (.ref heap_o0)) (F_o0_position : Fld Z h0 o0 "com/example/cross_town/crosstown/solve/NodeHeap" "position" "[I" (.ref position_o0)) (F_o0_key : Fld Z h0 o0 "com/example/cross_town/crosstown/solve/NodeHeap" "key" "[D" (.ref key_o0)) (V_heap_o0 : Ary tr Z h0 heap_o0 .int [(.int y0), (.int y1), (.int y2), (.int y3)]) (V_position_o0 : Ary tr Z h0 position_o0 .int (P.map Value.int)) (hl_P : (P.length = 4)) (V_key_o0 : Ary tr Z h0 key_o0 .double (K.map Value.double)) (hl_K : (K.length = 4)) (rg_p2 : (0 ≤ p2.toInt ∧ p2.toInt < 4)) (nnk : (NNk K)) (pv_p2 : (pv P p2 = -1)) (rg_y0 : (0 ≤ y0.toInt ∧ y0.toInt < 4)) (pv_y0 : (pv P y0 = 0)) (g_heap_o0 : n0 ≤ heap_o0) (ne_o0_heap_o0 : o0 ≠ heap_o0) (ne_position_o0_heap_o0 : position_o0 ≠ heap_o0) (g_position_o0 : n0 ≤ position_o0) (ne_o0_position_o0 : o0 ≠ position_o0) (ne_key_o0_position_o0 : key_o0 ≠ position_o0) (ne_key_o0_heap_o0 : key_o0 ≠ heap_o0) :
    MetFree l (⟨"com/example/cross_town/crosstown/solve/NodeHeap", "siftUp", "(II)V"⟩ : MethodName) (head1 (Jvm.Cond.code (⟨"com/example/cross_town/crosstown/solve/NodeHeap", "siftUp", "(II)V"⟩ : MethodName) prog_33_method_5_code 5 none :: ws) ({ frames := 1, cells := 0, slots := 0, locals := 14 } : Room)) (fun a U => a = #[(.ref o0), (.int (1 : Int32)), (.int p2)] ∧ Z.Warmed39 U.vm ∧ U.heap = h0) (fun _ _ _ _ _ => True) (fun _ U o U' => ∃ v L, o = .returned v ∧ Q5n1 Z o0 p2 heap_o0 position_o0 key_o0 y0 y1 y2 y3 P K h0 n0 v U'.heap L ∧ FrameEnd U o U' L ({ frames := 1, cells := 0, slots := 0, locals := 14 } : Room).cells ({ frames := 1, cells := 0, slots := 0, locals := 14 } : Room).slots) := by
  refine MetFree.of_bodySF (plainFor_of_name pn_com_example_cross_town_crosstown_solve_NodeHeap) hisR ?_
  intro p e s m args below meth c s₁ Bd hml0 hP hK
  obtain ⟨rfl, hZ, hh⟩ := hP
  have hx := Bd.exec
  have hby := Bd.bytes
  have hml : c.maxLocals = 5 := hml0
  have hown : s.vm.findClass "com/example/cross_town/crosstown/solve/NodeHeap" = some m.cls := findClass_of_methodNamed Bd.named
  have hnm := (name_of_methodNamed Bd.named Bd.method).1
  have X0 : Stand p l e ({ frames := 1, cells := 0, slots := 0, locals := 14 } : Room) s m #[(.ref o0), (.int (1 : Int32)), (.int p2)] below meth c s₁ [] 0 0 := Stand.of_body Bd
  have eH0 : s₁.heap = h0 := by rw [← hh, Bd.state]; rfl
  have N0 := Fr.nil n0
  have K0 := Keep.refl h0 [position_o0, heap_o0]
  show Gt p.tables e below (fun o U' => ∃ v L, o = .returned v ∧ Q5n1 Z o0 p2 heap_o0 position_o0 key_o0 y0 y1 y2 y3 P K h0 n0 v U'.heap L ∧ FrameEnd s o U' L ({ frames := 1, cells := 0, slots := 0, locals := 14 } : Room).cells ({ frames := 1, cells := 0, slots := 0, locals := 14 } : Room).slots) _
  refine own_cast (ef5n1 m o0 p2) ?_
  have d_y0_p2 : ¬ y0.toInt = p2.toInt := own_pne pv_y0 pv_p2 (by decide)
  have d_p2_y0 : ¬ p2.toInt = y0.toInt := own_pne pv_p2 pv_y0 (by decide)
  refine own_iloadN X0 hx hby rfl d5_0 (pc' := 1) rfl ?_
  refine own_istoreN X0 hx hby (L' := #[.val (.ref o0), .val (.int (1 : Int32)), .val (.int p2), .val (.int (1 : Int32)), .unset]) rfl d5_1 (pc' := 2) rfl ?_
  refine own_iloadN X0 hx hby rfl d5_2 (pc' := 3) rfl ?_
  refine own_ifF X0 hx hby d5_3 (by decide) (pc' := 6) rfl ?_
  refine own_iloadN X0 hx hby rfl d5_6 (pc' := 7) rfl ?_
  refine own_iconst X0 hx hby (v := (1 : Int32)) (by decide) d5_7 (pc' := 8) rfl ?_
  refine own_isub X0 hx hby (v := (0 : Int32)) (by decide) d5_8 (pc' := 9) rfl ?_
  refine own_iconst X0 hx hby (v := (2 : Int32)) (by decide) d5_9 (pc' := 10) rfl ?_
  refine own_idiv X0 hx hby (by decide) (v := (0 : Int32)) (by decide) d5_10 (pc' := 11) rfl ?_
  refine own_istore X0 hx hby (L' := #[.val (.ref o0), .val (.int (1 : Int32)), .val (.int p2), .val (.int (1 : Int32)), .val (.int (0 : Int32))]) rfl d5_11 (pc' := 13) rfl ?_
  refine own_aloadN X0 hx hby rfl rfl d5_13 (pc' := 14) rfl ?_
  refine own_getF X0 hx hby hZ hown (host := "") (Or.inl (hw _ (List.mem_of_getElem? (i := 16) rfl))) Via.refl eH0 F_o0_key d5_14 (pc' := 17) rfl (fun T1 X1 eH1 => ?_)
  refine own_aloadN X1 hx hby rfl rfl d5_17 (pc' := 18) rfl ?_
  refine own_getF X1 hx hby hZ hown (host := "") (Or.inl (hw _ (List.mem_of_getElem? (i := 11) rfl))) Via.refl eH1 F_o0_heap d5_18 (pc' := 21) rfl (fun T2 X2 eH2 => ?_)
  refine own_iload X2 hx hby rfl d5_21 (pc' := 23) rfl ?_
  refine own_iaload X2 hx hby hZ eH2 V_heap_o0 (by decide) (v := (.int y0)) rfl d5_23 (pc' := 24) rfl ?_
  refine own_daload X2 hx hby hZ eH2 V_key_o0 (own_rg0 rg_y0) (v := (.double (K.getD y0.toNatClampNeg 0))) (own_lget (own_rgl rg_y0 hl_K)) d5_24 (pc' := 25) rfl ?_
  refine own_aloadN X2 hx hby rfl rfl d5_25 (pc' := 26) rfl ?_
  refine own_getF X2 hx hby hZ hown (host := "") (Or.inl (hw _ (List.mem_of_getElem? (i := 16) rfl))) Via.refl eH2 F_o0_key d5_26 (pc' := 29) rfl (fun T3 X3 eH3 => ?_)
  refine own_iloadN X3 hx hby rfl d5_29 (pc' := 30) rfl ?_
  refine own_daload X3 hx hby hZ eH3 V_key_o0 (own_rg0 rg_p2) (v := (.double (K.getD p2.toNatClampNeg 0))) (own_lget (own_rgl rg_p2 hl_K)) d5_30 (pc' := 31) rfl ?_
  refine own_dcmp X3 hx hby rfl d5_31 (pc' := 32) rfl ?_
  by_cases hc4 : dle (K.getD y0.toNatClampNeg 0) (K.getD p2.toNatClampNeg 0)
  · refine own_ifF X3 hx hby d5_32 (own_dg_gt_p hc4) (pc' := 35) rfl ?_
    refine own_goto X3 hx hby d5_35 (by decide) (pc' := 56) (by decide) ?_
    refine own_aloadN X3 hx hby rfl rfl d5_56 (pc' := 57) rfl ?_
    refine own_iloadN X3 hx hby rfl d5_57 (pc' := 58) rfl ?_
    refine own_iloadN X3 hx hby rfl d5_58 (pc' := 59) rfl ?_
    refine own_private X3 hx hby hZ (y := (⟨"com/example/cross_town/crosstown/solve/NodeHeap", "place", "(II)V"⟩ : MethodName)) (rest := []) hown (hw _ (List.mem_of_getElem? (i := 33) rfl)) (hw _ (List.mem_of_getElem? (i := 34) rfl)) (hw _ (List.mem_of_getElem? (i := 2) rfl)) (hw _ (List.mem_of_getElem? (i := 35) rfl)) (hw _ (List.mem_of_getElem? (i := 36) rfl)) (hw _ (List.mem_of_getElem? (i := 3) rfl)) (by decide) (rm61 l Z a0 hw [] o0 p2 heap_o0 position_o0 y0 y1 y2 y3 P h0 n0 Z0 E_o0 F_o0_heap F_o0_position V_heap_o0 V_position_o0 (by first | assumption | rfl | (simp only [List.length_set]; first | assumption | rfl)) rg_p2 g_heap_o0 ne_o0_heap_o0 ne_position_o0_heap_o0 g_position_o0 ne_o0_position_o0) eH3 (by rw [hml]; rfl) (a := o0) E_o0 (argsL := [(.int (1 : Int32)), (.int p2)]) rfl (lenOf pd_1 rfl) rfl d5_59 (pc' := 62) rfl (by decide) (W := 0) (Nat.le_of_eq rfl) (by decide) (by decide) (by decide) (fun T5 h5 Lc5 v5r X5 eH5 hQ5 => ?_)
    obtain ⟨rfl, Nq5, Kq5, gq5_0, gq5_1⟩ := hQ5
    have N5 := Fr.app N0 Nq5
    replace E_o0 := E_o0.keep Kq5
    replace F_o0_heap := F_o0_heap.keep Kq5 (ninS ne_o0_heap_o0 (ninS ne_o0_position_o0 nin0))
    replace F_o0_position := F_o0_position.keep Kq5 (ninS ne_o0_heap_o0 (ninS ne_o0_position_o0 nin0))
    replace F_o0_key := F_o0_key.keep Kq5 (ninS ne_o0_heap_o0 (ninS ne_o0_position_o0 nin0))
    replace V_key_o0 := V_key_o0.keep Kq5 (ninS ne_key_o0_heap_o0 (ninS ne_key_o0_position_o0 nin0))
    replace K0 := K0.trans Kq5 (allS (Or.inl (by simp)) (allS (Or.inl (by simp)) all0))
    have V_heap_o0 := gq5_0
    have hl6 : (P.set p2.toNatClampNeg (1 : Int32)).length = 4 := by (repeat' split) <;> (simp only [List.length_set]; first | assumption | rfl)
    have V_position_o0 := gq5_1
    replace Z0 := Nat.le_trans Z0 Kq5.1
    have o0 := (own_kle nnk y0 p2).mp hc4
    have HH : Hp2 y0 p2 (P.set p2.toNatClampNeg (1 : Int32)) K := ⟨rg_y0, rg_p2, (by rw [own_pvs hl_P rg_p2 rg_y0, if_neg d_p2_y0]; exact pv_y0), (by rw [own_pvs hl_P rg_p2 rg_p2, if_pos rfl]; first | done | decide), (by omega)⟩
    have HA : ∀ z : Int32, (0 ≤ z.toInt ∧ z.toInt < 4) → ¬ p2.toInt = z.toInt → pv P z = -1 → pv (P.set p2.toNatClampNeg (1 : Int32)) z = -1 := fun z rgz hpz hz => (by rw [own_pvs hl_P rg_p2 rgz, if_neg hpz]; exact hz)
    exact own_retV X5 hx hby Bd.notSynchronized Bd.returns d5_62 (by decide) (by decide) eH5 ⟨rfl, N5, K0, (by simp only [if_pos hc4]; exact V_position_o0), (by simp only [if_pos hc4]; exact V_heap_o0), (by simp only [if_pos hc4]; exact HH), (by simp only [if_pos hc4]; exact HA)⟩
  · refine own_ifT X3 hx hby d5_32 (own_dg_gt_n hc4) (by decide) (pc' := 38) (by decide) ?_
    refine own_aloadN X3 hx hby rfl rfl d5_38 (pc' := 39) rfl ?_
    refine own_iloadN X3 hx hby rfl d5_39 (pc' := 40) rfl ?_
    refine own_aloadN X3 hx hby rfl rfl d5_40 (pc' := 41) rfl ?_
    refine own_getF X3 hx hby hZ hown (host := "") (Or.inl (hw _ (List.mem_of_getElem? (i := 11) rfl))) Via.refl eH3 F_o0_heap d5_41 (pc' := 44) rfl (fun T7 X7 eH7 => ?_)
    refine own_iload X7 hx hby rfl d5_44 (pc' := 46) rfl ?_
    refine own_iaload X7 hx hby hZ eH7 V_heap_o0 (by decide) (v := (.int y0)) rfl d5_46 (pc' := 47) rfl ?_
    refine own_private X7 hx hby hZ (y := (⟨"com/example/cross_town/crosstown/solve/NodeHeap", "place", "(II)V"⟩ : MethodName)) (rest := []) hown (hw _ (List.mem_of_getElem? (i := 33) rfl)) (hw _ (List.mem_of_getElem? (i := 34) rfl)) (hw _ (List.mem_of_getElem? (i := 2) rfl)) (hw _ (List.mem_of_getElem? (i := 35) rfl)) (hw _ (List.mem_of_getElem? (i := 36) rfl)) (hw _ (List.mem_of_getElem? (i := 3) rfl)) (by decide) (rm61 l Z a0 hw [] o0 y0 heap_o0 position_o0 y0 y1 y2 y3 P h0 n0 Z0 E_o0 F_o0_heap F_o0_position V_heap_o0 V_position_o0 (by first | assumption | rfl | (simp only [List.length_set]; first | assumption | rfl)) rg_y0 g_heap_o0 ne_o0_heap_o0 ne_position_o0_heap_o0 g_position_o0 ne_o0_position_o0) eH7 (by rw [hml]; rfl) (a := o0) E_o0 (argsL := [(.int (1 : Int32)), (.int y0)]) rfl (lenOf pd_1 rfl) rfl d5_47 (pc' := 50) rfl (by decide) (W := 0) (Nat.le_of_eq rfl) (by decide) (by decide) (by decide) (fun T8 h8 Lc8 v8r X8 eH8 hQ8 => ?_)
    obtain ⟨rfl, Nq8, Kq8, gq8_0, gq8_1⟩ := hQ8
    have N8 := Fr.app N0 Nq8
    replace E_o0 := E_o0.keep Kq8
    replace F_o0_heap := F_o0_heap.keep Kq8 (ninS ne_o0_heap_o0 (ninS ne_o0_position_o0 nin0))
    replace F_o0_position := F_o0_position.keep Kq8 (ninS ne_o0_heap_o0 (ninS ne_o0_position_o0 nin0))
    replace F_o0_key := F_o0_key.keep Kq8 (ninS ne_o0_heap_o0 (ninS ne_o0_position_o0 nin0))
    replace V_key_o0 := V_key_o0.keep Kq8 (ninS ne_key_o0_heap_o0 (ninS ne_key_o0_position_o0 nin0))
    replace K0 := K0.trans Kq8 (allS (Or.inl (by simp)) (allS (Or.inl (by simp)) all0))
    have V_heap_o0 := gq8_0
    have hl9 : (P.set y0.toNatClampNeg (1 : Int32)).length = 4 := by (repeat' split) <;> (simp only [List.length_set]; first | assumption | rfl)
    have V_position_o0 := gq8_1
    replace Z0 := Nat.le_trans Z0 Kq8.1
    refine own_iload X8 hx hby rfl d5_50 (pc' := 52) rfl ?_
    refine own_istoreN X8 hx hby (L' := #[.val (.ref o0), .val (.int (1 : Int32)), .val (.int p2), .val (.int (0 : Int32)), .val (.int (0 : Int32))]) rfl d5_52 (pc' := 53) rfl ?_
    refine own_goto X8 hx hby d5_53 (by decide) (pc' := 2) (by decide) ?_
    refine own_iloadN X8 hx hby rfl d5_2 (pc' := 3) rfl ?_
    refine own_ifT X8 hx hby d5_3 (by decide) (by decide) (pc' := 56) (by decide) ?_
    refine own_aloadN X8 hx hby rfl rfl d5_56 (pc' := 57) rfl ?_
    refine own_iloadN X8 hx hby rfl d5_57 (pc' := 58) rfl ?_
    refine own_iloadN X8 hx hby rfl d5_58 (pc' := 59) rfl ?_
    refine own_private X8 hx hby hZ (y := (⟨"com/example/cross_town/crosstown/solve/NodeHeap", "place", "(II)V"⟩ : MethodName)) (rest := []) hown (hw _ (List.mem_of_getElem? (i := 33) rfl)) (hw _ (List.mem_of_getElem? (i := 34) rfl)) (hw _ (List.mem_of_getElem? (i := 2) rfl)) (hw _ (List.mem_of_getElem? (i := 35) rfl)) (hw _ (List.mem_of_getElem? (i := 36) rfl)) (hw _ (List.mem_of_getElem? (i := 3) rfl)) (by decide) (rm60 l Z a0 hw [] o0 p2 heap_o0 position_o0 y0 y0 y2 y3 (P.set y0.toNatClampNeg (1 : Int32)) h8 n0 Z0 E_o0 F_o0_heap F_o0_position V_heap_o0 V_position_o0 (by first | assumption | rfl | (simp only [List.length_set]; first | assumption | rfl)) rg_p2 g_heap_o0 ne_o0_heap_o0 ne_position_o0_heap_o0 g_position_o0 ne_o0_position_o0) eH8 (by rw [hml]; rfl) (a := o0) E_o0 (argsL := [(.int (0 : Int32)), (.int p2)]) rfl (lenOf pd_1 rfl) rfl d5_59 (pc' := 62) rfl (by decide) (W := 0) (Nat.le_of_eq rfl) (by decide) (by decide) (by decide) (fun T10 h10 Lc10 v10r X10 eH10 hQ10 => ?_)
    obtain ⟨rfl, Nq10, Kq10, gq10_0, gq10_1⟩ := hQ10
    have N10 := Fr.app N8 Nq10
    replace E_o0 := E_o0.keep Kq10
    replace F_o0_heap := F_o0_heap.keep Kq10 (ninS ne_o0_heap_o0 (ninS ne_o0_position_o0 nin0))
    replace F_o0_position := F_o0_position.keep Kq10 (ninS ne_o0_heap_o0 (ninS ne_o0_position_o0 nin0))
    replace F_o0_key := F_o0_key.keep Kq10 (ninS ne_o0_heap_o0 (ninS ne_o0_position_o0 nin0))
    replace V_key_o0 := V_key_o0.keep Kq10 (ninS ne_key_o0_heap_o0 (ninS ne_key_o0_position_o0 nin0))
    replace K0 := K0.trans Kq10 (allS (Or.inl (by simp)) (allS (Or.inl (by simp)) all0))
    have V_heap_o0 := gq10_0
    have hl11 : ((P.set y0.toNatClampNeg (1 : Int32)).set p2.toNatClampNeg (0 : Int32)).length = 4 := by (repeat' split) <;> (simp only [List.length_set]; first | assumption | rfl)
    have V_position_o0 := gq10_1
    replace Z0 := Nat.le_trans Z0 Kq10.1
    have o0 := mt (own_kle nnk y0 p2).mpr hc4
    have HH : Hp2 p2 y0 ((P.set y0.toNatClampNeg (1 : Int32)).set p2.toNatClampNeg (0 : Int32)) K := ⟨rg_p2, rg_y0, (by rw [own_pvs (by simp only [List.length_set]; exact hl_P) rg_p2 rg_p2, if_pos rfl]; first | done | decide), (by rw [own_pvs (by simp only [List.length_set]; exact hl_P) rg_p2 rg_y0, if_neg d_p2_y0, own_pvs hl_P rg_y0 rg_y0, if_pos rfl]; first | done | decide), (by omega)⟩
    have HA : ∀ z : Int32, (0 ≤ z.toInt ∧ z.toInt < 4) → ¬ p2.toInt = z.toInt → pv P z = -1 → pv ((P.set y0.toNatClampNeg (1 : Int32)).set p2.toNatClampNeg (0 : Int32)) z = -1 := fun z rgz hpz hz => (by rw [own_pvs (by simp only [List.length_set]; exact hl_P) rg_p2 rgz, if_neg hpz, own_pvs hl_P rg_y0 rgz, if_neg (own_pne pv_y0 hz (by decide))]; exact hz)
    exact own_retV X10 hx hby Bd.notSynchronized Bd.returns d5_62 (by decide) (by decide) eH10 ⟨rfl, N10, K0, (by simp only [if_neg hc4]; exact V_position_o0), (by simp only [if_neg hc4]; exact V_heap_o0), (by simp only [if_neg hc4]; exact HH), (by simp only [if_neg hc4]; exact HA)⟩
theorem ef5n2 (m : MethodId) (x0 : Addr) (x2 : Int32) : entryFrame m #[(.ref x0), (.int (2 : Int32)), (.int x2)] 5 = mkF m 0 #[.val (.ref x0), .val (.int (2 : Int32)), .val (.int x2), .unset, .unset] [] := by first | (simp [entryFrame, mkF, argsToLocals, Value.category]; done) | rfl
def Q5n2 (Z : State) (o0 : Addr) (p2 : Int32) (heap_o0 : Addr) (position_o0 : Addr) (key_o0 : Addr) (y0 : Int32) (y1 : Int32) (y2 : Int32) (y3 : Int32) (P : List Int32) (K : List UInt64) (h0 : Heap) (n0 : Nat) (v : Option Value) (h : Heap) (L : List Loc) : Prop := v = none ∧ Fr n0 L ∧ Keep h0 h [position_o0, heap_o0] ∧ Ary tr Z h position_o0 .int ((if dle (K.getD y0.toNatClampNeg 0) (K.getD p2.toNatClampNeg 0) then (P.set p2.toNatClampNeg (2 : Int32)) else ((P.set y0.toNatClampNeg (2 : Int32)).set p2.toNatClampNeg (0 : Int32))).map Value.int) ∧ Ary tr Z h heap_o0 .int [(.int (if dle (K.getD y0.toNatClampNeg 0) (K.getD p2.toNatClampNeg 0) then y0 else p2)), (.int y1), (.int (if dle (K.getD y0.toNatClampNeg 0) (K.getD p2.toNatClampNeg 0) then p2 else y0)), (.int y3)] ∧ (Hp3 (if dle (K.getD y0.toNatClampNeg 0) (K.getD p2.toNatClampNeg 0) then y0 else p2) y1 (if dle (K.getD y0.toNatClampNeg 0) (K.getD p2.toNatClampNeg 0) then p2 else y0) (if dle (K.getD y0.toNatClampNeg 0) (K.getD p2.toNatClampNeg 0) then (P.set p2.toNatClampNeg (2 : Int32)) else ((P.set y0.toNatClampNeg (2 : Int32)).set p2.toNatClampNeg (0 : Int32))) K) ∧ (∀ z : Int32, (0 ≤ z.toInt ∧ z.toInt < 4) → ¬ p2.toInt = z.toInt → pv P z = -1 → pv (if dle (K.getD y0.toNatClampNeg 0) (K.getD p2.toNatClampNeg 0) then (P.set p2.toNatClampNeg (2 : Int32)) else ((P.set y0.toNatClampNeg (2 : Int32)).set p2.toNatClampNeg (0 : Int32))) z = -1)
set_option maxRecDepth 65536 in
set_option maxHeartbeats 40000000 in
theorem rm5n2 (l : Launch) (Z : State) (a0 : Array Value) (hw : ∀ d ∈ tables_1, d.before a0 Z = true) (ws : List Jvm.Cond) (o0 : Addr) (p2 : Int32) (heap_o0 : Addr) (position_o0 : Addr) (key_o0 : Addr) (y0 : Int32) (y1 : Int32) (y2 : Int32) (y3 : Int32) (P : List Int32) (K : List UInt64) (h0 : Heap) (n0 : Nat) (Z0 : n0 ≤ h0.size) (E_o0 : Exa Z h0 o0 "com/example/cross_town/crosstown/solve/NodeHeap") (F_o0_heap : Fld Z h0 o0 "com/example/cross_town/crosstown/solve/NodeHeap" "heap" "[I" (.ref heap_o0)) (F_o0_position : Fld Z h0 o0 "com/example/cross_town/crosstown/solve/NodeHeap" "position" "[I" (.ref position_o0)) (F_o0_key : Fld Z h0 o0 "com/example/cross_town/crosstown/solve/NodeHeap" "key" "[D" (.ref key_o0)) (V_heap_o0 : Ary tr Z h0 heap_o0 .int [(.int y0), (.int y1), (.int y2), (.int y3)]) (V_position_o0 : Ary tr Z h0 position_o0 .int (P.map Value.int)) (hl_P : (P.length = 4)) (V_key_o0 : Ary tr Z h0 key_o0 .double (K.map Value.double)) (hl_K : (K.length = 4)) (rg_p2 : (0 ≤ p2.toInt ∧ p2.toInt < 4)) (nnk : (NNk K)) (pv_p2 : (pv P p2 = -1)) (rg_y0 : (0 ≤ y0.toInt ∧ y0.toInt < 4)) (pv_y0 : (pv P y0 = 0)) (rg_y1 : (0 ≤ y1.toInt ∧ y1.toInt < 4)) (pv_y1 : (pv P y1 = 1)) (ord1 : (kv K y0 ≤ kv K y1)) (g_heap_o0 : n0 ≤ heap_o0) (ne_o0_heap_o0 : o0 ≠ heap_o0) (ne_position_o0_heap_o0 : position_o0 ≠ heap_o0) (g_position_o0 : n0 ≤ position_o0) (ne_o0_position_o0 : o0 ≠ position_o0) (ne_key_o0_position_o0 : key_o0 ≠ position_o0) (ne_key_o0_heap_o0 : key_o0 ≠ heap_o0) :
    MetFree l (⟨"com/example/cross_town/crosstown/solve/NodeHeap", "siftUp", "(II)V"⟩ : MethodName) (head1 (Jvm.Cond.code (⟨"com/example/cross_town/crosstown/solve/NodeHeap", "siftUp", "(II)V"⟩ : MethodName) prog_33_method_5_code 5 none :: ws) ({ frames := 1, cells := 0, slots := 0, locals := 14 } : Room)) (fun a U => a = #[(.ref o0), (.int (2 : Int32)), (.int p2)] ∧ Z.Warmed39 U.vm ∧ U.heap = h0) (fun _ _ _ _ _ => True) (fun _ U o U' => ∃ v L, o = .returned v ∧ Q5n2 Z o0 p2 heap_o0 position_o0 key_o0 y0 y1 y2 y3 P K h0 n0 v U'.heap L ∧ FrameEnd U o U' L ({ frames := 1, cells := 0, slots := 0, locals := 14 } : Room).cells ({ frames := 1, cells := 0, slots := 0, locals := 14 } : Room).slots) := by
  refine MetFree.of_bodySF (plainFor_of_name pn_com_example_cross_town_crosstown_solve_NodeHeap) hisR ?_
  intro p e s m args below meth c s₁ Bd hml0 hP hK
  obtain ⟨rfl, hZ, hh⟩ := hP
  have hx := Bd.exec
  have hby := Bd.bytes
  have hml : c.maxLocals = 5 := hml0
  have hown : s.vm.findClass "com/example/cross_town/crosstown/solve/NodeHeap" = some m.cls := findClass_of_methodNamed Bd.named
  have hnm := (name_of_methodNamed Bd.named Bd.method).1
  have X0 : Stand p l e ({ frames := 1, cells := 0, slots := 0, locals := 14 } : Room) s m #[(.ref o0), (.int (2 : Int32)), (.int p2)] below meth c s₁ [] 0 0 := Stand.of_body Bd
  have eH0 : s₁.heap = h0 := by rw [← hh, Bd.state]; rfl
  have N0 := Fr.nil n0
  have K0 := Keep.refl h0 [position_o0, heap_o0]
  show Gt p.tables e below (fun o U' => ∃ v L, o = .returned v ∧ Q5n2 Z o0 p2 heap_o0 position_o0 key_o0 y0 y1 y2 y3 P K h0 n0 v U'.heap L ∧ FrameEnd s o U' L ({ frames := 1, cells := 0, slots := 0, locals := 14 } : Room).cells ({ frames := 1, cells := 0, slots := 0, locals := 14 } : Room).slots) _
  refine own_cast (ef5n2 m o0 p2) ?_
  have d_y0_y1 : ¬ y0.toInt = y1.toInt := own_pne pv_y0 pv_y1 (by decide)
  have d_y0_p2 : ¬ y0.toInt = p2.toInt := own_pne pv_y0 pv_p2 (by decide)
  have d_y1_y0 : ¬ y1.toInt = y0.toInt := own_pne pv_y1 pv_y0 (by decide)
  have d_y1_p2 : ¬ y1.toInt = p2.toInt := own_pne pv_y1 pv_p2 (by decide)
  have d_p2_y0 : ¬ p2.toInt = y0.toInt := own_pne pv_p2 pv_y0 (by decide)
  have d_p2_y1 : ¬ p2.toInt = y1.toInt := own_pne pv_p2 pv_y1 (by decide)
  refine own_iloadN X0 hx hby rfl d5_0 (pc' := 1) rfl ?_
  refine own_istoreN X0 hx hby (L' := #[.val (.ref o0), .val (.int (2 : Int32)), .val (.int p2), .val (.int (2 : Int32)), .unset]) rfl d5_1 (pc' := 2) rfl ?_
  refine own_iloadN X0 hx hby rfl d5_2 (pc' := 3) rfl ?_
  refine own_ifF X0 hx hby d5_3 (by decide) (pc' := 6) rfl ?_
  refine own_iloadN X0 hx hby rfl d5_6 (pc' := 7) rfl ?_
  refine own_iconst X0 hx hby (v := (1 : Int32)) (by decide) d5_7 (pc' := 8) rfl ?_
  refine own_isub X0 hx hby (v := (1 : Int32)) (by decide) d5_8 (pc' := 9) rfl ?_
  refine own_iconst X0 hx hby (v := (2 : Int32)) (by decide) d5_9 (pc' := 10) rfl ?_
  refine own_idiv X0 hx hby (by decide) (v := (0 : Int32)) (by decide) d5_10 (pc' := 11) rfl ?_
  refine own_istore X0 hx hby (L' := #[.val (.ref o0), .val (.int (2 : Int32)), .val (.int p2), .val (.int (2 : Int32)), .val (.int (0 : Int32))]) rfl d5_11 (pc' := 13) rfl ?_
  refine own_aloadN X0 hx hby rfl rfl d5_13 (pc' := 14) rfl ?_
  refine own_getF X0 hx hby hZ hown (host := "") (Or.inl (hw _ (List.mem_of_getElem? (i := 16) rfl))) Via.refl eH0 F_o0_key d5_14 (pc' := 17) rfl (fun T1 X1 eH1 => ?_)
  refine own_aloadN X1 hx hby rfl rfl d5_17 (pc' := 18) rfl ?_
  refine own_getF X1 hx hby hZ hown (host := "") (Or.inl (hw _ (List.mem_of_getElem? (i := 11) rfl))) Via.refl eH1 F_o0_heap d5_18 (pc' := 21) rfl (fun T2 X2 eH2 => ?_)
  refine own_iload X2 hx hby rfl d5_21 (pc' := 23) rfl ?_
  refine own_iaload X2 hx hby hZ eH2 V_heap_o0 (by decide) (v := (.int y0)) rfl d5_23 (pc' := 24) rfl ?_
  refine own_daload X2 hx hby hZ eH2 V_key_o0 (own_rg0 rg_y0) (v := (.double (K.getD y0.toNatClampNeg 0))) (own_lget (own_rgl rg_y0 hl_K)) d5_24 (pc' := 25) rfl ?_
  refine own_aloadN X2 hx hby rfl rfl d5_25 (pc' := 26) rfl ?_
  refine own_getF X2 hx hby hZ hown (host := "") (Or.inl (hw _ (List.mem_of_getElem? (i := 16) rfl))) Via.refl eH2 F_o0_key d5_26 (pc' := 29) rfl (fun T3 X3 eH3 => ?_)
  refine own_iloadN X3 hx hby rfl d5_29 (pc' := 30) rfl ?_
  refine own_daload X3 hx hby hZ eH3 V_key_o0 (own_rg0 rg_p2) (v := (.double (K.getD p2.toNatClampNeg 0))) (own_lget (own_rgl rg_p2 hl_K)) d5_30 (pc' := 31) rfl ?_
  refine own_dcmp X3 hx hby rfl d5_31 (pc' := 32) rfl ?_
  by_cases hc4 : dle (K.getD y0.toNatClampNeg 0) (K.getD p2.toNatClampNeg 0)
  · refine own_ifF X3 hx hby d5_32 (own_dg_gt_p hc4) (pc' := 35) rfl ?_
    refine own_goto X3 hx hby d5_35 (by decide) (pc' := 56) (by decide) ?_
    refine own_aloadN X3 hx hby rfl rfl d5_56 (pc' := 57) rfl ?_
    refine own_iloadN X3 hx hby rfl d5_57 (pc' := 58) rfl ?_
    refine own_iloadN X3 hx hby rfl d5_58 (pc' := 59) rfl ?_
    refine own_private X3 hx hby hZ (y := (⟨"com/example/cross_town/crosstown/solve/NodeHeap", "place", "(II)V"⟩ : MethodName)) (rest := []) hown (hw _ (List.mem_of_getElem? (i := 33) rfl)) (hw _ (List.mem_of_getElem? (i := 34) rfl)) (hw _ (List.mem_of_getElem? (i := 2) rfl)) (hw _ (List.mem_of_getElem? (i := 35) rfl)) (hw _ (List.mem_of_getElem? (i := 36) rfl)) (hw _ (List.mem_of_getElem? (i := 3) rfl)) (by decide) (rm62 l Z a0 hw [] o0 p2 heap_o0 position_o0 y0 y1 y2 y3 P h0 n0 Z0 E_o0 F_o0_heap F_o0_position V_heap_o0 V_position_o0 (by first | assumption | rfl | (simp only [List.length_set]; first | assumption | rfl)) rg_p2 g_heap_o0 ne_o0_heap_o0 ne_position_o0_heap_o0 g_position_o0 ne_o0_position_o0) eH3 (by rw [hml]; rfl) (a := o0) E_o0 (argsL := [(.int (2 : Int32)), (.int p2)]) rfl (lenOf pd_1 rfl) rfl d5_59 (pc' := 62) rfl (by decide) (W := 0) (Nat.le_of_eq rfl) (by decide) (by decide) (by decide) (fun T5 h5 Lc5 v5r X5 eH5 hQ5 => ?_)
    obtain ⟨rfl, Nq5, Kq5, gq5_0, gq5_1⟩ := hQ5
    have N5 := Fr.app N0 Nq5
    replace E_o0 := E_o0.keep Kq5
    replace F_o0_heap := F_o0_heap.keep Kq5 (ninS ne_o0_heap_o0 (ninS ne_o0_position_o0 nin0))
    replace F_o0_position := F_o0_position.keep Kq5 (ninS ne_o0_heap_o0 (ninS ne_o0_position_o0 nin0))
    replace F_o0_key := F_o0_key.keep Kq5 (ninS ne_o0_heap_o0 (ninS ne_o0_position_o0 nin0))
    replace V_key_o0 := V_key_o0.keep Kq5 (ninS ne_key_o0_heap_o0 (ninS ne_key_o0_position_o0 nin0))
    replace K0 := K0.trans Kq5 (allS (Or.inl (by simp)) (allS (Or.inl (by simp)) all0))
    have V_heap_o0 := gq5_0
    have hl6 : (P.set p2.toNatClampNeg (2 : Int32)).length = 4 := by (repeat' split) <;> (simp only [List.length_set]; first | assumption | rfl)
    have V_position_o0 := gq5_1
    replace Z0 := Nat.le_trans Z0 Kq5.1
    have o0 := (own_kle nnk y0 p2).mp hc4
    have HH : Hp3 y0 y1 p2 (P.set p2.toNatClampNeg (2 : Int32)) K := ⟨rg_y0, rg_y1, rg_p2, (by rw [own_pvs hl_P rg_p2 rg_y0, if_neg d_p2_y0]; exact pv_y0), (by rw [own_pvs hl_P rg_p2 rg_y1, if_neg d_p2_y1]; exact pv_y1), (by rw [own_pvs hl_P rg_p2 rg_p2, if_pos rfl]; first | done | decide), (by omega), (by omega)⟩
    have HA : ∀ z : Int32, (0 ≤ z.toInt ∧ z.toInt < 4) → ¬ p2.toInt = z.toInt → pv P z = -1 → pv (P.set p2.toNatClampNeg (2 : Int32)) z = -1 := fun z rgz hpz hz => (by rw [own_pvs hl_P rg_p2 rgz, if_neg hpz]; exact hz)
    exact own_retV X5 hx hby Bd.notSynchronized Bd.returns d5_62 (by decide) (by decide) eH5 ⟨rfl, N5, K0, (by simp only [if_pos hc4]; exact V_position_o0), (by simp only [if_pos hc4]; exact V_heap_o0), (by simp only [if_pos hc4]; exact HH), (by simp only [if_pos hc4]; exact HA)⟩
  · refine own_ifT X3 hx hby d5_32 (own_dg_gt_n hc4) (by decide) (pc' := 38) (by decide) ?_
    refine own_aloadN X3 hx hby rfl rfl d5_38 (pc' := 39) rfl ?_
    refine own_iloadN X3 hx hby rfl d5_39 (pc' := 40) rfl ?_
    refine own_aloadN X3 hx hby rfl rfl d5_40 (pc' := 41) rfl ?_
    refine own_getF X3 hx hby hZ hown (host := "") (Or.inl (hw _ (List.mem_of_getElem? (i := 11) rfl))) Via.refl eH3 F_o0_heap d5_41 (pc' := 44) rfl (fun T7 X7 eH7 => ?_)
    refine own_iload X7 hx hby rfl d5_44 (pc' := 46) rfl ?_
    refine own_iaload X7 hx hby hZ eH7 V_heap_o0 (by decide) (v := (.int y0)) rfl d5_46 (pc' := 47) rfl ?_
    refine own_private X7 hx hby hZ (y := (⟨"com/example/cross_town/crosstown/solve/NodeHeap", "place", "(II)V"⟩ : MethodName)) (rest := []) hown (hw _ (List.mem_of_getElem? (i := 33) rfl)) (hw _ (List.mem_of_getElem? (i := 34) rfl)) (hw _ (List.mem_of_getElem? (i := 2) rfl)) (hw _ (List.mem_of_getElem? (i := 35) rfl)) (hw _ (List.mem_of_getElem? (i := 36) rfl)) (hw _ (List.mem_of_getElem? (i := 3) rfl)) (by decide) (rm62 l Z a0 hw [] o0 y0 heap_o0 position_o0 y0 y1 y2 y3 P h0 n0 Z0 E_o0 F_o0_heap F_o0_position V_heap_o0 V_position_o0 (by first | assumption | rfl | (simp only [List.length_set]; first | assumption | rfl)) rg_y0 g_heap_o0 ne_o0_heap_o0 ne_position_o0_heap_o0 g_position_o0 ne_o0_position_o0) eH7 (by rw [hml]; rfl) (a := o0) E_o0 (argsL := [(.int (2 : Int32)), (.int y0)]) rfl (lenOf pd_1 rfl) rfl d5_47 (pc' := 50) rfl (by decide) (W := 0) (Nat.le_of_eq rfl) (by decide) (by decide) (by decide) (fun T8 h8 Lc8 v8r X8 eH8 hQ8 => ?_)
    obtain ⟨rfl, Nq8, Kq8, gq8_0, gq8_1⟩ := hQ8
    have N8 := Fr.app N0 Nq8
    replace E_o0 := E_o0.keep Kq8
    replace F_o0_heap := F_o0_heap.keep Kq8 (ninS ne_o0_heap_o0 (ninS ne_o0_position_o0 nin0))
    replace F_o0_position := F_o0_position.keep Kq8 (ninS ne_o0_heap_o0 (ninS ne_o0_position_o0 nin0))
    replace F_o0_key := F_o0_key.keep Kq8 (ninS ne_o0_heap_o0 (ninS ne_o0_position_o0 nin0))
    replace V_key_o0 := V_key_o0.keep Kq8 (ninS ne_key_o0_heap_o0 (ninS ne_key_o0_position_o0 nin0))
    replace K0 := K0.trans Kq8 (allS (Or.inl (by simp)) (allS (Or.inl (by simp)) all0))
    have V_heap_o0 := gq8_0
    have hl9 : (P.set y0.toNatClampNeg (2 : Int32)).length = 4 := by (repeat' split) <;> (simp only [List.length_set]; first | assumption | rfl)
    have V_position_o0 := gq8_1
    replace Z0 := Nat.le_trans Z0 Kq8.1
    refine own_iload X8 hx hby rfl d5_50 (pc' := 52) rfl ?_
    refine own_istoreN X8 hx hby (L' := #[.val (.ref o0), .val (.int (2 : Int32)), .val (.int p2), .val (.int (0 : Int32)), .val (.int (0 : Int32))]) rfl d5_52 (pc' := 53) rfl ?_
    refine own_goto X8 hx hby d5_53 (by decide) (pc' := 2) (by decide) ?_
    refine own_iloadN X8 hx hby rfl d5_2 (pc' := 3) rfl ?_
    refine own_ifT X8 hx hby d5_3 (by decide) (by decide) (pc' := 56) (by decide) ?_
    refine own_aloadN X8 hx hby rfl rfl d5_56 (pc' := 57) rfl ?_
    refine own_iloadN X8 hx hby rfl d5_57 (pc' := 58) rfl ?_
    refine own_iloadN X8 hx hby rfl d5_58 (pc' := 59) rfl ?_
    refine own_private X8 hx hby hZ (y := (⟨"com/example/cross_town/crosstown/solve/NodeHeap", "place", "(II)V"⟩ : MethodName)) (rest := []) hown (hw _ (List.mem_of_getElem? (i := 33) rfl)) (hw _ (List.mem_of_getElem? (i := 34) rfl)) (hw _ (List.mem_of_getElem? (i := 2) rfl)) (hw _ (List.mem_of_getElem? (i := 35) rfl)) (hw _ (List.mem_of_getElem? (i := 36) rfl)) (hw _ (List.mem_of_getElem? (i := 3) rfl)) (by decide) (rm60 l Z a0 hw [] o0 p2 heap_o0 position_o0 y0 y1 y0 y3 (P.set y0.toNatClampNeg (2 : Int32)) h8 n0 Z0 E_o0 F_o0_heap F_o0_position V_heap_o0 V_position_o0 (by first | assumption | rfl | (simp only [List.length_set]; first | assumption | rfl)) rg_p2 g_heap_o0 ne_o0_heap_o0 ne_position_o0_heap_o0 g_position_o0 ne_o0_position_o0) eH8 (by rw [hml]; rfl) (a := o0) E_o0 (argsL := [(.int (0 : Int32)), (.int p2)]) rfl (lenOf pd_1 rfl) rfl d5_59 (pc' := 62) rfl (by decide) (W := 0) (Nat.le_of_eq rfl) (by decide) (by decide) (by decide) (fun T10 h10 Lc10 v10r X10 eH10 hQ10 => ?_)
    obtain ⟨rfl, Nq10, Kq10, gq10_0, gq10_1⟩ := hQ10
    have N10 := Fr.app N8 Nq10
    replace E_o0 := E_o0.keep Kq10
    replace F_o0_heap := F_o0_heap.keep Kq10 (ninS ne_o0_heap_o0 (ninS ne_o0_position_o0 nin0))
    replace F_o0_position := F_o0_position.keep Kq10 (ninS ne_o0_heap_o0 (ninS ne_o0_position_o0 nin0))
    replace F_o0_key := F_o0_key.keep Kq10 (ninS ne_o0_heap_o0 (ninS ne_o0_position_o0 nin0))
    replace V_key_o0 := V_key_o0.keep Kq10 (ninS ne_key_o0_heap_o0 (ninS ne_key_o0_position_o0 nin0))
    replace K0 := K0.trans Kq10 (allS (Or.inl (by simp)) (allS (Or.inl (by simp)) all0))
    have V_heap_o0 := gq10_0
    have hl11 : ((P.set y0.toNatClampNeg (2 : Int32)).set p2.toNatClampNeg (0 : Int32)).length = 4 := by (repeat' split) <;> (simp only [List.length_set]; first | assumption | rfl)
    have V_position_o0 := gq10_1
    replace Z0 := Nat.le_trans Z0 Kq10.1
    have o0 := mt (own_kle nnk y0 p2).mpr hc4
    have HH : Hp3 p2 y1 y0 ((P.set y0.toNatClampNeg (2 : Int32)).set p2.toNatClampNeg (0 : Int32)) K := ⟨rg_p2, rg_y1, rg_y0, (by rw [own_pvs (by simp only [List.length_set]; exact hl_P) rg_p2 rg_p2, if_pos rfl]; first | done | decide), (by rw [own_pvs (by simp only [List.length_set]; exact hl_P) rg_p2 rg_y1, if_neg d_p2_y1, own_pvs hl_P rg_y0 rg_y1, if_neg d_y0_y1]; exact pv_y1), (by rw [own_pvs (by simp only [List.length_set]; exact hl_P) rg_p2 rg_y0, if_neg d_p2_y0, own_pvs hl_P rg_y0 rg_y0, if_pos rfl]; first | done | decide), (by omega), (by omega)⟩
    have HA : ∀ z : Int32, (0 ≤ z.toInt ∧ z.toInt < 4) → ¬ p2.toInt = z.toInt → pv P z = -1 → pv ((P.set y0.toNatClampNeg (2 : Int32)).set p2.toNatClampNeg (0 : Int32)) z = -1 := fun z rgz hpz hz => (by rw [own_pvs (by simp only [List.length_set]; exact hl_P) rg_p2 rgz, if_neg hpz, own_pvs hl_P rg_y0 rgz, if_neg (own_pne pv_y0 hz (by decide))]; exact hz)
    exact own_retV X10 hx hby Bd.notSynchronized Bd.returns d5_62 (by decide) (by decide) eH10 ⟨rfl, N10, K0, (by simp only [if_neg hc4]; exact V_position_o0), (by simp only [if_neg hc4]; exact V_heap_o0), (by simp only [if_neg hc4]; exact HH), (by simp only [if_neg hc4]; exact HA)⟩
theorem ef5n3 (m : MethodId) (x0 : Addr) (x2 : Int32) : entryFrame m #[(.ref x0), (.int (3 : Int32)), (.int x2)] 5 = mkF m 0 #[.val (.ref x0), .val (.int (3 : Int32)), .val (.int x2), .unset, .unset] [] := by first | (simp [entryFrame, mkF, argsToLocals, Value.category]; done) | rfl
def Q5n3 (Z : State) (o0 : Addr) (p2 : Int32) (heap_o0 : Addr) (position_o0 : Addr) (key_o0 : Addr) (y0 : Int32) (y1 : Int32) (y2 : Int32) (y3 : Int32) (P : List Int32) (K : List UInt64) (h0 : Heap) (n0 : Nat) (v : Option Value) (h : Heap) (L : List Loc) : Prop := v = none ∧ Fr n0 L ∧ Keep h0 h [position_o0, heap_o0] ∧ Ary tr Z h position_o0 .int ((if dle (K.getD y1.toNatClampNeg 0) (K.getD p2.toNatClampNeg 0) then (P.set p2.toNatClampNeg (3 : Int32)) else (if dle (K.getD y0.toNatClampNeg 0) (K.getD p2.toNatClampNeg 0) then ((P.set y1.toNatClampNeg (3 : Int32)).set p2.toNatClampNeg (1 : Int32)) else (((P.set y1.toNatClampNeg (3 : Int32)).set y0.toNatClampNeg (1 : Int32)).set p2.toNatClampNeg (0 : Int32)))).map Value.int) ∧ Ary tr Z h heap_o0 .int [(.int (if dle (K.getD y1.toNatClampNeg 0) (K.getD p2.toNatClampNeg 0) then y0 else (if dle (K.getD y0.toNatClampNeg 0) (K.getD p2.toNatClampNeg 0) then y0 else p2))), (.int (if dle (K.getD y1.toNatClampNeg 0) (K.getD p2.toNatClampNeg 0) then y1 else (if dle (K.getD y0.toNatClampNeg 0) (K.getD p2.toNatClampNeg 0) then p2 else y0))), (.int y2), (.int (if dle (K.getD y1.toNatClampNeg 0) (K.getD p2.toNatClampNeg 0) then p2 else (if dle (K.getD y0.toNatClampNeg 0) (K.getD p2.toNatClampNeg 0) then y1 else y1)))] ∧ (Hp4 (if dle (K.getD y1.toNatClampNeg 0) (K.getD p2.toNatClampNeg 0) then y0 else (if dle (K.getD y0.toNatClampNeg 0) (K.getD p2.toNatClampNeg 0) then y0 else p2)) (if dle (K.getD y1.toNatClampNeg 0) (K.getD p2.toNatClampNeg 0) then y1 else (if dle (K.getD y0.toNatClampNeg 0) (K.getD p2.toNatClampNeg 0) then p2 else y0)) y2 (if dle (K.getD y1.toNatClampNeg 0) (K.getD p2.toNatClampNeg 0) then p2 else (if dle (K.getD y0.toNatClampNeg 0) (K.getD p2.toNatClampNeg 0) then y1 else y1)) (if dle (K.getD y1.toNatClampNeg 0) (K.getD p2.toNatClampNeg 0) then (P.set p2.toNatClampNeg (3 : Int32)) else (if dle (K.getD y0.toNatClampNeg 0) (K.getD p2.toNatClampNeg 0) then ((P.set y1.toNatClampNeg (3 : Int32)).set p2.toNatClampNeg (1 : Int32)) else (((P.set y1.toNatClampNeg (3 : Int32)).set y0.toNatClampNeg (1 : Int32)).set p2.toNatClampNeg (0 : Int32)))) K) ∧ (∀ z : Int32, (0 ≤ z.toInt ∧ z.toInt < 4) → ¬ p2.toInt = z.toInt → pv P z = -1 → pv (if dle (K.getD y1.toNatClampNeg 0) (K.getD p2.toNatClampNeg 0) then (P.set p2.toNatClampNeg (3 : Int32)) else (if dle (K.getD y0.toNatClampNeg 0) (K.getD p2.toNatClampNeg 0) then ((P.set y1.toNatClampNeg (3 : Int32)).set p2.toNatClampNeg (1 : Int32)) else (((P.set y1.toNatClampNeg (3 : Int32)).set y0.toNatClampNeg (1 : Int32)).set p2.toNatClampNeg (0 : Int32)))) z = -1)
set_option maxRecDepth 65536 in
set_option maxHeartbeats 40000000 in
theorem rm5n3 (l : Launch) (Z : State) (a0 : Array Value) (hw : ∀ d ∈ tables_1, d.before a0 Z = true) (ws : List Jvm.Cond) (o0 : Addr) (p2 : Int32) (heap_o0 : Addr) (position_o0 : Addr) (key_o0 : Addr) (y0 : Int32) (y1 : Int32) (y2 : Int32) (y3 : Int32) (P : List Int32) (K : List UInt64) (h0 : Heap) (n0 : Nat) (Z0 : n0 ≤ h0.size) (E_o0 : Exa Z h0 o0 "com/example/cross_town/crosstown/solve/NodeHeap") (F_o0_heap : Fld Z h0 o0 "com/example/cross_town/crosstown/solve/NodeHeap" "heap" "[I" (.ref heap_o0)) (F_o0_position : Fld Z h0 o0 "com/example/cross_town/crosstown/solve/NodeHeap" "position" "[I" (.ref position_o0)) (F_o0_key : Fld Z h0 o0 "com/example/cross_town/crosstown/solve/NodeHeap" "key" "[D" (.ref key_o0)) (V_heap_o0 : Ary tr Z h0 heap_o0 .int [(.int y0), (.int y1), (.int y2), (.int y3)]) (V_position_o0 : Ary tr Z h0 position_o0 .int (P.map Value.int)) (hl_P : (P.length = 4)) (V_key_o0 : Ary tr Z h0 key_o0 .double (K.map Value.double)) (hl_K : (K.length = 4)) (rg_p2 : (0 ≤ p2.toInt ∧ p2.toInt < 4)) (nnk : (NNk K)) (pv_p2 : (pv P p2 = -1)) (rg_y0 : (0 ≤ y0.toInt ∧ y0.toInt < 4)) (pv_y0 : (pv P y0 = 0)) (rg_y1 : (0 ≤ y1.toInt ∧ y1.toInt < 4)) (pv_y1 : (pv P y1 = 1)) (rg_y2 : (0 ≤ y2.toInt ∧ y2.toInt < 4)) (pv_y2 : (pv P y2 = 2)) (ord1 : (kv K y0 ≤ kv K y1)) (ord2 : (kv K y0 ≤ kv K y2)) (g_heap_o0 : n0 ≤ heap_o0) (ne_o0_heap_o0 : o0 ≠ heap_o0) (ne_position_o0_heap_o0 : position_o0 ≠ heap_o0) (g_position_o0 : n0 ≤ position_o0) (ne_o0_position_o0 : o0 ≠ position_o0) (ne_key_o0_position_o0 : key_o0 ≠ position_o0) (ne_key_o0_heap_o0 : key_o0 ≠ heap_o0) :
    MetFree l (⟨"com/example/cross_town/crosstown/solve/NodeHeap", "siftUp", "(II)V"⟩ : MethodName) (head1 (Jvm.Cond.code (⟨"com/example/cross_town/crosstown/solve/NodeHeap", "siftUp", "(II)V"⟩ : MethodName) prog_33_method_5_code 5 none :: ws) ({ frames := 1, cells := 0, slots := 0, locals := 14 } : Room)) (fun a U => a = #[(.ref o0), (.int (3 : Int32)), (.int p2)] ∧ Z.Warmed39 U.vm ∧ U.heap = h0) (fun _ _ _ _ _ => True) (fun _ U o U' => ∃ v L, o = .returned v ∧ Q5n3 Z o0 p2 heap_o0 position_o0 key_o0 y0 y1 y2 y3 P K h0 n0 v U'.heap L ∧ FrameEnd U o U' L ({ frames := 1, cells := 0, slots := 0, locals := 14 } : Room).cells ({ frames := 1, cells := 0, slots := 0, locals := 14 } : Room).slots) := by
  refine MetFree.of_bodySF (plainFor_of_name pn_com_example_cross_town_crosstown_solve_NodeHeap) hisR ?_
  intro p e s m args below meth c s₁ Bd hml0 hP hK
  obtain ⟨rfl, hZ, hh⟩ := hP
  have hx := Bd.exec
  have hby := Bd.bytes
  have hml : c.maxLocals = 5 := hml0
  have hown : s.vm.findClass "com/example/cross_town/crosstown/solve/NodeHeap" = some m.cls := findClass_of_methodNamed Bd.named
  have hnm := (name_of_methodNamed Bd.named Bd.method).1
  have X0 : Stand p l e ({ frames := 1, cells := 0, slots := 0, locals := 14 } : Room) s m #[(.ref o0), (.int (3 : Int32)), (.int p2)] below meth c s₁ [] 0 0 := Stand.of_body Bd
  have eH0 : s₁.heap = h0 := by rw [← hh, Bd.state]; rfl
  have N0 := Fr.nil n0
  have K0 := Keep.refl h0 [position_o0, heap_o0]
  show Gt p.tables e below (fun o U' => ∃ v L, o = .returned v ∧ Q5n3 Z o0 p2 heap_o0 position_o0 key_o0 y0 y1 y2 y3 P K h0 n0 v U'.heap L ∧ FrameEnd s o U' L ({ frames := 1, cells := 0, slots := 0, locals := 14 } : Room).cells ({ frames := 1, cells := 0, slots := 0, locals := 14 } : Room).slots) _
  refine own_cast (ef5n3 m o0 p2) ?_
  have d_y0_y1 : ¬ y0.toInt = y1.toInt := own_pne pv_y0 pv_y1 (by decide)
  have d_y0_y2 : ¬ y0.toInt = y2.toInt := own_pne pv_y0 pv_y2 (by decide)
  have d_y0_p2 : ¬ y0.toInt = p2.toInt := own_pne pv_y0 pv_p2 (by decide)
  have d_y1_y0 : ¬ y1.toInt = y0.toInt := own_pne pv_y1 pv_y0 (by decide)
  have d_y1_y2 : ¬ y1.toInt = y2.toInt := own_pne pv_y1 pv_y2 (by decide)
  have d_y1_p2 : ¬ y1.toInt = p2.toInt := own_pne pv_y1 pv_p2 (by decide)
  have d_y2_y0 : ¬ y2.toInt = y0.toInt := own_pne pv_y2 pv_y0 (by decide)
  have d_y2_y1 : ¬ y2.toInt = y1.toInt := own_pne pv_y2 pv_y1 (by decide)
  have d_y2_p2 : ¬ y2.toInt = p2.toInt := own_pne pv_y2 pv_p2 (by decide)
  have d_p2_y0 : ¬ p2.toInt = y0.toInt := own_pne pv_p2 pv_y0 (by decide)
  have d_p2_y1 : ¬ p2.toInt = y1.toInt := own_pne pv_p2 pv_y1 (by decide)
  have d_p2_y2 : ¬ p2.toInt = y2.toInt := own_pne pv_p2 pv_y2 (by decide)
  refine own_iloadN X0 hx hby rfl d5_0 (pc' := 1) rfl ?_
  refine own_istoreN X0 hx hby (L' := #[.val (.ref o0), .val (.int (3 : Int32)), .val (.int p2), .val (.int (3 : Int32)), .unset]) rfl d5_1 (pc' := 2) rfl ?_
  refine own_iloadN X0 hx hby rfl d5_2 (pc' := 3) rfl ?_
  refine own_ifF X0 hx hby d5_3 (by decide) (pc' := 6) rfl ?_
  refine own_iloadN X0 hx hby rfl d5_6 (pc' := 7) rfl ?_
  refine own_iconst X0 hx hby (v := (1 : Int32)) (by decide) d5_7 (pc' := 8) rfl ?_
  refine own_isub X0 hx hby (v := (2 : Int32)) (by decide) d5_8 (pc' := 9) rfl ?_
  refine own_iconst X0 hx hby (v := (2 : Int32)) (by decide) d5_9 (pc' := 10) rfl ?_
  refine own_idiv X0 hx hby (by decide) (v := (1 : Int32)) (by decide) d5_10 (pc' := 11) rfl ?_
  refine own_istore X0 hx hby (L' := #[.val (.ref o0), .val (.int (3 : Int32)), .val (.int p2), .val (.int (3 : Int32)), .val (.int (1 : Int32))]) rfl d5_11 (pc' := 13) rfl ?_
  refine own_aloadN X0 hx hby rfl rfl d5_13 (pc' := 14) rfl ?_
  refine own_getF X0 hx hby hZ hown (host := "") (Or.inl (hw _ (List.mem_of_getElem? (i := 16) rfl))) Via.refl eH0 F_o0_key d5_14 (pc' := 17) rfl (fun T1 X1 eH1 => ?_)
  refine own_aloadN X1 hx hby rfl rfl d5_17 (pc' := 18) rfl ?_
  refine own_getF X1 hx hby hZ hown (host := "") (Or.inl (hw _ (List.mem_of_getElem? (i := 11) rfl))) Via.refl eH1 F_o0_heap d5_18 (pc' := 21) rfl (fun T2 X2 eH2 => ?_)
  refine own_iload X2 hx hby rfl d5_21 (pc' := 23) rfl ?_
  refine own_iaload X2 hx hby hZ eH2 V_heap_o0 (by decide) (v := (.int y1)) rfl d5_23 (pc' := 24) rfl ?_
  refine own_daload X2 hx hby hZ eH2 V_key_o0 (own_rg0 rg_y1) (v := (.double (K.getD y1.toNatClampNeg 0))) (own_lget (own_rgl rg_y1 hl_K)) d5_24 (pc' := 25) rfl ?_
  refine own_aloadN X2 hx hby rfl rfl d5_25 (pc' := 26) rfl ?_
  refine own_getF X2 hx hby hZ hown (host := "") (Or.inl (hw _ (List.mem_of_getElem? (i := 16) rfl))) Via.refl eH2 F_o0_key d5_26 (pc' := 29) rfl (fun T3 X3 eH3 => ?_)
  refine own_iloadN X3 hx hby rfl d5_29 (pc' := 30) rfl ?_
  refine own_daload X3 hx hby hZ eH3 V_key_o0 (own_rg0 rg_p2) (v := (.double (K.getD p2.toNatClampNeg 0))) (own_lget (own_rgl rg_p2 hl_K)) d5_30 (pc' := 31) rfl ?_
  refine own_dcmp X3 hx hby rfl d5_31 (pc' := 32) rfl ?_
  by_cases hc4 : dle (K.getD y1.toNatClampNeg 0) (K.getD p2.toNatClampNeg 0)
  · refine own_ifF X3 hx hby d5_32 (own_dg_gt_p hc4) (pc' := 35) rfl ?_
    refine own_goto X3 hx hby d5_35 (by decide) (pc' := 56) (by decide) ?_
    refine own_aloadN X3 hx hby rfl rfl d5_56 (pc' := 57) rfl ?_
    refine own_iloadN X3 hx hby rfl d5_57 (pc' := 58) rfl ?_
    refine own_iloadN X3 hx hby rfl d5_58 (pc' := 59) rfl ?_
    refine own_private X3 hx hby hZ (y := (⟨"com/example/cross_town/crosstown/solve/NodeHeap", "place", "(II)V"⟩ : MethodName)) (rest := []) hown (hw _ (List.mem_of_getElem? (i := 33) rfl)) (hw _ (List.mem_of_getElem? (i := 34) rfl)) (hw _ (List.mem_of_getElem? (i := 2) rfl)) (hw _ (List.mem_of_getElem? (i := 35) rfl)) (hw _ (List.mem_of_getElem? (i := 36) rfl)) (hw _ (List.mem_of_getElem? (i := 3) rfl)) (by decide) (rm63 l Z a0 hw [] o0 p2 heap_o0 position_o0 y0 y1 y2 y3 P h0 n0 Z0 E_o0 F_o0_heap F_o0_position V_heap_o0 V_position_o0 (by first | assumption | rfl | (simp only [List.length_set]; first | assumption | rfl)) rg_p2 g_heap_o0 ne_o0_heap_o0 ne_position_o0_heap_o0 g_position_o0 ne_o0_position_o0) eH3 (by rw [hml]; rfl) (a := o0) E_o0 (argsL := [(.int (3 : Int32)), (.int p2)]) rfl (lenOf pd_1 rfl) rfl d5_59 (pc' := 62) rfl (by decide) (W := 0) (Nat.le_of_eq rfl) (by decide) (by decide) (by decide) (fun T5 h5 Lc5 v5r X5 eH5 hQ5 => ?_)
    obtain ⟨rfl, Nq5, Kq5, gq5_0, gq5_1⟩ := hQ5
    have N5 := Fr.app N0 Nq5
    replace E_o0 := E_o0.keep Kq5
    replace F_o0_heap := F_o0_heap.keep Kq5 (ninS ne_o0_heap_o0 (ninS ne_o0_position_o0 nin0))
    replace F_o0_position := F_o0_position.keep Kq5 (ninS ne_o0_heap_o0 (ninS ne_o0_position_o0 nin0))
    replace F_o0_key := F_o0_key.keep Kq5 (ninS ne_o0_heap_o0 (ninS ne_o0_position_o0 nin0))
    replace V_key_o0 := V_key_o0.keep Kq5 (ninS ne_key_o0_heap_o0 (ninS ne_key_o0_position_o0 nin0))
    replace K0 := K0.trans Kq5 (allS (Or.inl (by simp)) (allS (Or.inl (by simp)) all0))
    have V_heap_o0 := gq5_0
    have hl6 : (P.set p2.toNatClampNeg (3 : Int32)).length = 4 := by (repeat' split) <;> (simp only [List.length_set]; first | assumption | rfl)
    have V_position_o0 := gq5_1
    replace Z0 := Nat.le_trans Z0 Kq5.1
    have o0 := (own_kle nnk y1 p2).mp hc4
    have HH : Hp4 y0 y1 y2 p2 (P.set p2.toNatClampNeg (3 : Int32)) K := ⟨rg_y0, rg_y1, rg_y2, rg_p2, (by rw [own_pvs hl_P rg_p2 rg_y0, if_neg d_p2_y0]; exact pv_y0), (by rw [own_pvs hl_P rg_p2 rg_y1, if_neg d_p2_y1]; exact pv_y1), (by rw [own_pvs hl_P rg_p2 rg_y2, if_neg d_p2_y2]; exact pv_y2), (by rw [own_pvs hl_P rg_p2 rg_p2, if_pos rfl]; first | done | decide), (by omega), (by omega), (by omega)⟩
    have HA : ∀ z : Int32, (0 ≤ z.toInt ∧ z.toInt < 4) → ¬ p2.toInt = z.toInt → pv P z = -1 → pv (P.set p2.toNatClampNeg (3 : Int32)) z = -1 := fun z rgz hpz hz => (by rw [own_pvs hl_P rg_p2 rgz, if_neg hpz]; exact hz)
    exact own_retV X5 hx hby Bd.notSynchronized Bd.returns d5_62 (by decide) (by decide) eH5 ⟨rfl, N5, K0, (by simp only [if_pos hc4]; exact V_position_o0), (by simp only [if_pos hc4]; exact V_heap_o0), (by simp only [if_pos hc4]; exact HH), (by simp only [if_pos hc4]; exact HA)⟩
  · refine own_ifT X3 hx hby d5_32 (own_dg_gt_n hc4) (by decide) (pc' := 38) (by decide) ?_
    refine own_aloadN X3 hx hby rfl rfl d5_38 (pc' := 39) rfl ?_
    refine own_iloadN X3 hx hby rfl d5_39 (pc' := 40) rfl ?_
    refine own_aloadN X3 hx hby rfl rfl d5_40 (pc' := 41) rfl ?_
    refine own_getF X3 hx hby hZ hown (host := "") (Or.inl (hw _ (List.mem_of_getElem? (i := 11) rfl))) Via.refl eH3 F_o0_heap d5_41 (pc' := 44) rfl (fun T7 X7 eH7 => ?_)
    refine own_iload X7 hx hby rfl d5_44 (pc' := 46) rfl ?_
    refine own_iaload X7 hx hby hZ eH7 V_heap_o0 (by decide) (v := (.int y1)) rfl d5_46 (pc' := 47) rfl ?_
    refine own_private X7 hx hby hZ (y := (⟨"com/example/cross_town/crosstown/solve/NodeHeap", "place", "(II)V"⟩ : MethodName)) (rest := []) hown (hw _ (List.mem_of_getElem? (i := 33) rfl)) (hw _ (List.mem_of_getElem? (i := 34) rfl)) (hw _ (List.mem_of_getElem? (i := 2) rfl)) (hw _ (List.mem_of_getElem? (i := 35) rfl)) (hw _ (List.mem_of_getElem? (i := 36) rfl)) (hw _ (List.mem_of_getElem? (i := 3) rfl)) (by decide) (rm63 l Z a0 hw [] o0 y1 heap_o0 position_o0 y0 y1 y2 y3 P h0 n0 Z0 E_o0 F_o0_heap F_o0_position V_heap_o0 V_position_o0 (by first | assumption | rfl | (simp only [List.length_set]; first | assumption | rfl)) rg_y1 g_heap_o0 ne_o0_heap_o0 ne_position_o0_heap_o0 g_position_o0 ne_o0_position_o0) eH7 (by rw [hml]; rfl) (a := o0) E_o0 (argsL := [(.int (3 : Int32)), (.int y1)]) rfl (lenOf pd_1 rfl) rfl d5_47 (pc' := 50) rfl (by decide) (W := 0) (Nat.le_of_eq rfl) (by decide) (by decide) (by decide) (fun T8 h8 Lc8 v8r X8 eH8 hQ8 => ?_)
    obtain ⟨rfl, Nq8, Kq8, gq8_0, gq8_1⟩ := hQ8
    have N8 := Fr.app N0 Nq8
    replace E_o0 := E_o0.keep Kq8
    replace F_o0_heap := F_o0_heap.keep Kq8 (ninS ne_o0_heap_o0 (ninS ne_o0_position_o0 nin0))
    replace F_o0_position := F_o0_position.keep Kq8 (ninS ne_o0_heap_o0 (ninS ne_o0_position_o0 nin0))
    replace F_o0_key := F_o0_key.keep Kq8 (ninS ne_o0_heap_o0 (ninS ne_o0_position_o0 nin0))
    replace V_key_o0 := V_key_o0.keep Kq8 (ninS ne_key_o0_heap_o0 (ninS ne_key_o0_position_o0 nin0))
    replace K0 := K0.trans Kq8 (allS (Or.inl (by simp)) (allS (Or.inl (by simp)) all0))
    have V_heap_o0 := gq8_0
    have hl9 : (P.set y1.toNatClampNeg (3 : Int32)).length = 4 := by (repeat' split) <;> (simp only [List.length_set]; first | assumption | rfl)
    have V_position_o0 := gq8_1
    replace Z0 := Nat.le_trans Z0 Kq8.1
    refine own_iload X8 hx hby rfl d5_50 (pc' := 52) rfl ?_
    refine own_istoreN X8 hx hby (L' := #[.val (.ref o0), .val (.int (3 : Int32)), .val (.int p2), .val (.int (1 : Int32)), .val (.int (1 : Int32))]) rfl d5_52 (pc' := 53) rfl ?_
    refine own_goto X8 hx hby d5_53 (by decide) (pc' := 2) (by decide) ?_
    refine own_iloadN X8 hx hby rfl d5_2 (pc' := 3) rfl ?_
    refine own_ifF X8 hx hby d5_3 (by decide) (pc' := 6) rfl ?_
    refine own_iloadN X8 hx hby rfl d5_6 (pc' := 7) rfl ?_
    refine own_iconst X8 hx hby (v := (1 : Int32)) (by decide) d5_7 (pc' := 8) rfl ?_
    refine own_isub X8 hx hby (v := (0 : Int32)) (by decide) d5_8 (pc' := 9) rfl ?_
    refine own_iconst X8 hx hby (v := (2 : Int32)) (by decide) d5_9 (pc' := 10) rfl ?_
    refine own_idiv X8 hx hby (by decide) (v := (0 : Int32)) (by decide) d5_10 (pc' := 11) rfl ?_
    refine own_istore X8 hx hby (L' := #[.val (.ref o0), .val (.int (3 : Int32)), .val (.int p2), .val (.int (1 : Int32)), .val (.int (0 : Int32))]) rfl d5_11 (pc' := 13) rfl ?_
    refine own_aloadN X8 hx hby rfl rfl d5_13 (pc' := 14) rfl ?_
    refine own_getF X8 hx hby hZ hown (host := "") (Or.inl (hw _ (List.mem_of_getElem? (i := 16) rfl))) Via.refl eH8 F_o0_key d5_14 (pc' := 17) rfl (fun T10 X10 eH10 => ?_)
    refine own_aloadN X10 hx hby rfl rfl d5_17 (pc' := 18) rfl ?_
    refine own_getF X10 hx hby hZ hown (host := "") (Or.inl (hw _ (List.mem_of_getElem? (i := 11) rfl))) Via.refl eH10 F_o0_heap d5_18 (pc' := 21) rfl (fun T11 X11 eH11 => ?_)
    refine own_iload X11 hx hby rfl d5_21 (pc' := 23) rfl ?_
    refine own_iaload X11 hx hby hZ eH11 V_heap_o0 (by decide) (v := (.int y0)) rfl d5_23 (pc' := 24) rfl ?_
    refine own_daload X11 hx hby hZ eH11 V_key_o0 (own_rg0 rg_y0) (v := (.double (K.getD y0.toNatClampNeg 0))) (own_lget (own_rgl rg_y0 hl_K)) d5_24 (pc' := 25) rfl ?_
    refine own_aloadN X11 hx hby rfl rfl d5_25 (pc' := 26) rfl ?_
    refine own_getF X11 hx hby hZ hown (host := "") (Or.inl (hw _ (List.mem_of_getElem? (i := 16) rfl))) Via.refl eH11 F_o0_key d5_26 (pc' := 29) rfl (fun T12 X12 eH12 => ?_)
    refine own_iloadN X12 hx hby rfl d5_29 (pc' := 30) rfl ?_
    refine own_daload X12 hx hby hZ eH12 V_key_o0 (own_rg0 rg_p2) (v := (.double (K.getD p2.toNatClampNeg 0))) (own_lget (own_rgl rg_p2 hl_K)) d5_30 (pc' := 31) rfl ?_
    refine own_dcmp X12 hx hby rfl d5_31 (pc' := 32) rfl ?_
    by_cases hc13 : dle (K.getD y0.toNatClampNeg 0) (K.getD p2.toNatClampNeg 0)
    · refine own_ifF X12 hx hby d5_32 (own_dg_gt_p hc13) (pc' := 35) rfl ?_
      refine own_goto X12 hx hby d5_35 (by decide) (pc' := 56) (by decide) ?_
      refine own_aloadN X12 hx hby rfl rfl d5_56 (pc' := 57) rfl ?_
      refine own_iloadN X12 hx hby rfl d5_57 (pc' := 58) rfl ?_
      refine own_iloadN X12 hx hby rfl d5_58 (pc' := 59) rfl ?_
      refine own_private X12 hx hby hZ (y := (⟨"com/example/cross_town/crosstown/solve/NodeHeap", "place", "(II)V"⟩ : MethodName)) (rest := []) hown (hw _ (List.mem_of_getElem? (i := 33) rfl)) (hw _ (List.mem_of_getElem? (i := 34) rfl)) (hw _ (List.mem_of_getElem? (i := 2) rfl)) (hw _ (List.mem_of_getElem? (i := 35) rfl)) (hw _ (List.mem_of_getElem? (i := 36) rfl)) (hw _ (List.mem_of_getElem? (i := 3) rfl)) (by decide) (rm61 l Z a0 hw [] o0 p2 heap_o0 position_o0 y0 y1 y2 y1 (P.set y1.toNatClampNeg (3 : Int32)) h8 n0 Z0 E_o0 F_o0_heap F_o0_position V_heap_o0 V_position_o0 (by first | assumption | rfl | (simp only [List.length_set]; first | assumption | rfl)) rg_p2 g_heap_o0 ne_o0_heap_o0 ne_position_o0_heap_o0 g_position_o0 ne_o0_position_o0) eH12 (by rw [hml]; rfl) (a := o0) E_o0 (argsL := [(.int (1 : Int32)), (.int p2)]) rfl (lenOf pd_1 rfl) rfl d5_59 (pc' := 62) rfl (by decide) (W := 0) (Nat.le_of_eq rfl) (by decide) (by decide) (by decide) (fun T14 h14 Lc14 v14r X14 eH14 hQ14 => ?_)
      obtain ⟨rfl, Nq14, Kq14, gq14_0, gq14_1⟩ := hQ14
      have N14 := Fr.app N8 Nq14
      replace E_o0 := E_o0.keep Kq14
      replace F_o0_heap := F_o0_heap.keep Kq14 (ninS ne_o0_heap_o0 (ninS ne_o0_position_o0 nin0))
      replace F_o0_position := F_o0_position.keep Kq14 (ninS ne_o0_heap_o0 (ninS ne_o0_position_o0 nin0))
      replace F_o0_key := F_o0_key.keep Kq14 (ninS ne_o0_heap_o0 (ninS ne_o0_position_o0 nin0))
      replace V_key_o0 := V_key_o0.keep Kq14 (ninS ne_key_o0_heap_o0 (ninS ne_key_o0_position_o0 nin0))
      replace K0 := K0.trans Kq14 (allS (Or.inl (by simp)) (allS (Or.inl (by simp)) all0))
      have V_heap_o0 := gq14_0
      have hl15 : ((P.set y1.toNatClampNeg (3 : Int32)).set p2.toNatClampNeg (1 : Int32)).length = 4 := by (repeat' split) <;> (simp only [List.length_set]; first | assumption | rfl)
      have V_position_o0 := gq14_1
      replace Z0 := Nat.le_trans Z0 Kq14.1
      have o0 := mt (own_kle nnk y1 p2).mpr hc4
      have o1 := (own_kle nnk y0 p2).mp hc13
      have HH : Hp4 y0 p2 y2 y1 ((P.set y1.toNatClampNeg (3 : Int32)).set p2.toNatClampNeg (1 : Int32)) K := ⟨rg_y0, rg_p2, rg_y2, rg_y1, (by rw [own_pvs (by simp only [List.length_set]; exact hl_P) rg_p2 rg_y0, if_neg d_p2_y0, own_pvs hl_P rg_y1 rg_y0, if_neg d_y1_y0]; exact pv_y0), (by rw [own_pvs (by simp only [List.length_set]; exact hl_P) rg_p2 rg_p2, if_pos rfl]; first | done | decide), (by rw [own_pvs (by simp only [List.length_set]; exact hl_P) rg_p2 rg_y2, if_neg d_p2_y2, own_pvs hl_P rg_y1 rg_y2, if_neg d_y1_y2]; exact pv_y2), (by rw [own_pvs (by simp only [List.length_set]; exact hl_P) rg_p2 rg_y1, if_neg d_p2_y1, own_pvs hl_P rg_y1 rg_y1, if_pos rfl]; first | done | decide), (by omega), (by omega), (by omega)⟩
      have HA : ∀ z : Int32, (0 ≤ z.toInt ∧ z.toInt < 4) → ¬ p2.toInt = z.toInt → pv P z = -1 → pv ((P.set y1.toNatClampNeg (3 : Int32)).set p2.toNatClampNeg (1 : Int32)) z = -1 := fun z rgz hpz hz => (by rw [own_pvs (by simp only [List.length_set]; exact hl_P) rg_p2 rgz, if_neg hpz, own_pvs hl_P rg_y1 rgz, if_neg (own_pne pv_y1 hz (by decide))]; exact hz)
      exact own_retV X14 hx hby Bd.notSynchronized Bd.returns d5_62 (by decide) (by decide) eH14 ⟨rfl, N14, K0, (by simp only [if_neg hc4, if_pos hc13]; exact V_position_o0), (by simp only [if_neg hc4, if_pos hc13]; exact V_heap_o0), (by simp only [if_neg hc4, if_pos hc13]; exact HH), (by simp only [if_neg hc4, if_pos hc13]; exact HA)⟩
    · refine own_ifT X12 hx hby d5_32 (own_dg_gt_n hc13) (by decide) (pc' := 38) (by decide) ?_
      refine own_aloadN X12 hx hby rfl rfl d5_38 (pc' := 39) rfl ?_
      refine own_iloadN X12 hx hby rfl d5_39 (pc' := 40) rfl ?_
      refine own_aloadN X12 hx hby rfl rfl d5_40 (pc' := 41) rfl ?_
      refine own_getF X12 hx hby hZ hown (host := "") (Or.inl (hw _ (List.mem_of_getElem? (i := 11) rfl))) Via.refl eH12 F_o0_heap d5_41 (pc' := 44) rfl (fun T16 X16 eH16 => ?_)
      refine own_iload X16 hx hby rfl d5_44 (pc' := 46) rfl ?_
      refine own_iaload X16 hx hby hZ eH16 V_heap_o0 (by decide) (v := (.int y0)) rfl d5_46 (pc' := 47) rfl ?_
      refine own_private X16 hx hby hZ (y := (⟨"com/example/cross_town/crosstown/solve/NodeHeap", "place", "(II)V"⟩ : MethodName)) (rest := []) hown (hw _ (List.mem_of_getElem? (i := 33) rfl)) (hw _ (List.mem_of_getElem? (i := 34) rfl)) (hw _ (List.mem_of_getElem? (i := 2) rfl)) (hw _ (List.mem_of_getElem? (i := 35) rfl)) (hw _ (List.mem_of_getElem? (i := 36) rfl)) (hw _ (List.mem_of_getElem? (i := 3) rfl)) (by decide) (rm61 l Z a0 hw [] o0 y0 heap_o0 position_o0 y0 y1 y2 y1 (P.set y1.toNatClampNeg (3 : Int32)) h8 n0 Z0 E_o0 F_o0_heap F_o0_position V_heap_o0 V_position_o0 (by first | assumption | rfl | (simp only [List.length_set]; first | assumption | rfl)) rg_y0 g_heap_o0 ne_o0_heap_o0 ne_position_o0_heap_o0 g_position_o0 ne_o0_position_o0) eH16 (by rw [hml]; rfl) (a := o0) E_o0 (argsL := [(.int (1 : Int32)), (.int y0)]) rfl (lenOf pd_1 rfl) rfl d5_47 (pc' := 50) rfl (by decide) (W := 0) (Nat.le_of_eq rfl) (by decide) (by decide) (by decide) (fun T17 h17 Lc17 v17r X17 eH17 hQ17 => ?_)
      obtain ⟨rfl, Nq17, Kq17, gq17_0, gq17_1⟩ := hQ17
      have N17 := Fr.app N8 Nq17
      replace E_o0 := E_o0.keep Kq17
      replace F_o0_heap := F_o0_heap.keep Kq17 (ninS ne_o0_heap_o0 (ninS ne_o0_position_o0 nin0))
      replace F_o0_position := F_o0_position.keep Kq17 (ninS ne_o0_heap_o0 (ninS ne_o0_position_o0 nin0))
      replace F_o0_key := F_o0_key.keep Kq17 (ninS ne_o0_heap_o0 (ninS ne_o0_position_o0 nin0))
      replace V_key_o0 := V_key_o0.keep Kq17 (ninS ne_key_o0_heap_o0 (ninS ne_key_o0_position_o0 nin0))
      replace K0 := K0.trans Kq17 (allS (Or.inl (by simp)) (allS (Or.inl (by simp)) all0))
      have V_heap_o0 := gq17_0
      have hl18 : ((P.set y1.toNatClampNeg (3 : Int32)).set y0.toNatClampNeg (1 : Int32)).length = 4 := by (repeat' split) <;> (simp only [List.length_set]; first | assumption | rfl)
      have V_position_o0 := gq17_1
      replace Z0 := Nat.le_trans Z0 Kq17.1
      refine own_iload X17 hx hby rfl d5_50 (pc' := 52) rfl ?_
      refine own_istoreN X17 hx hby (L' := #[.val (.ref o0), .val (.int (3 : Int32)), .val (.int p2), .val (.int (0 : Int32)), .val (.int (0 : Int32))]) rfl d5_52 (pc' := 53) rfl ?_
      refine own_goto X17 hx hby d5_53 (by decide) (pc' := 2) (by decide) ?_
      refine own_iloadN X17 hx hby rfl d5_2 (pc' := 3) rfl ?_
      refine own_ifT X17 hx hby d5_3 (by decide) (by decide) (pc' := 56) (by decide) ?_
      refine own_aloadN X17 hx hby rfl rfl d5_56 (pc' := 57) rfl ?_
      refine own_iloadN X17 hx hby rfl d5_57 (pc' := 58) rfl ?_
      refine own_iloadN X17 hx hby rfl d5_58 (pc' := 59) rfl ?_
      refine own_private X17 hx hby hZ (y := (⟨"com/example/cross_town/crosstown/solve/NodeHeap", "place", "(II)V"⟩ : MethodName)) (rest := []) hown (hw _ (List.mem_of_getElem? (i := 33) rfl)) (hw _ (List.mem_of_getElem? (i := 34) rfl)) (hw _ (List.mem_of_getElem? (i := 2) rfl)) (hw _ (List.mem_of_getElem? (i := 35) rfl)) (hw _ (List.mem_of_getElem? (i := 36) rfl)) (hw _ (List.mem_of_getElem? (i := 3) rfl)) (by decide) (rm60 l Z a0 hw [] o0 p2 heap_o0 position_o0 y0 y0 y2 y1 ((P.set y1.toNatClampNeg (3 : Int32)).set y0.toNatClampNeg (1 : Int32)) h17 n0 Z0 E_o0 F_o0_heap F_o0_position V_heap_o0 V_position_o0 (by first | assumption | rfl | (simp only [List.length_set]; first | assumption | rfl)) rg_p2 g_heap_o0 ne_o0_heap_o0 ne_position_o0_heap_o0 g_position_o0 ne_o0_position_o0) eH17 (by rw [hml]; rfl) (a := o0) E_o0 (argsL := [(.int (0 : Int32)), (.int p2)]) rfl (lenOf pd_1 rfl) rfl d5_59 (pc' := 62) rfl (by decide) (W := 0) (Nat.le_of_eq rfl) (by decide) (by decide) (by decide) (fun T19 h19 Lc19 v19r X19 eH19 hQ19 => ?_)
      obtain ⟨rfl, Nq19, Kq19, gq19_0, gq19_1⟩ := hQ19
      have N19 := Fr.app N17 Nq19
      replace E_o0 := E_o0.keep Kq19
      replace F_o0_heap := F_o0_heap.keep Kq19 (ninS ne_o0_heap_o0 (ninS ne_o0_position_o0 nin0))
      replace F_o0_position := F_o0_position.keep Kq19 (ninS ne_o0_heap_o0 (ninS ne_o0_position_o0 nin0))
      replace F_o0_key := F_o0_key.keep Kq19 (ninS ne_o0_heap_o0 (ninS ne_o0_position_o0 nin0))
      replace V_key_o0 := V_key_o0.keep Kq19 (ninS ne_key_o0_heap_o0 (ninS ne_key_o0_position_o0 nin0))
      replace K0 := K0.trans Kq19 (allS (Or.inl (by simp)) (allS (Or.inl (by simp)) all0))
      have V_heap_o0 := gq19_0
      have hl20 : (((P.set y1.toNatClampNeg (3 : Int32)).set y0.toNatClampNeg (1 : Int32)).set p2.toNatClampNeg (0 : Int32)).length = 4 := by (repeat' split) <;> (simp only [List.length_set]; first | assumption | rfl)
      have V_position_o0 := gq19_1
      replace Z0 := Nat.le_trans Z0 Kq19.1
      have o0 := mt (own_kle nnk y1 p2).mpr hc4
      have o1 := mt (own_kle nnk y0 p2).mpr hc13
      have HH : Hp4 p2 y0 y2 y1 (((P.set y1.toNatClampNeg (3 : Int32)).set y0.toNatClampNeg (1 : Int32)).set p2.toNatClampNeg (0 : Int32)) K := ⟨rg_p2, rg_y0, rg_y2, rg_y1, (by rw [own_pvs (by simp only [List.length_set]; exact hl_P) rg_p2 rg_p2, if_pos rfl]; first | done | decide), (by rw [own_pvs (by simp only [List.length_set]; exact hl_P) rg_p2 rg_y0, if_neg d_p2_y0, own_pvs (by simp only [List.length_set]; exact hl_P) rg_y0 rg_y0, if_pos rfl]; first | done | decide), (by rw [own_pvs (by simp only [List.length_set]; exact hl_P) rg_p2 rg_y2, if_neg d_p2_y2, own_pvs (by simp only [List.length_set]; exact hl_P) rg_y0 rg_y2, if_neg d_y0_y2, own_pvs hl_P rg_y1 rg_y2, if_neg d_y1_y2]; exact pv_y2), (by rw [own_pvs (by simp only [List.length_set]; exact hl_P) rg_p2 rg_y1, if_neg d_p2_y1, own_pvs (by simp only [List.length_set]; exact hl_P) rg_y0 rg_y1, if_neg d_y0_y1, own_pvs hl_P rg_y1 rg_y1, if_pos rfl]; first | done | decide), (by omega), (by omega), (by omega)⟩
      have HA : ∀ z : Int32, (0 ≤ z.toInt ∧ z.toInt < 4) → ¬ p2.toInt = z.toInt → pv P z = -1 → pv (((P.set y1.toNatClampNeg (3 : Int32)).set y0.toNatClampNeg (1 : Int32)).set p2.toNatClampNeg (0 : Int32)) z = -1 := fun z rgz hpz hz => (by rw [own_pvs (by simp only [List.length_set]; exact hl_P) rg_p2 rgz, if_neg hpz, own_pvs (by simp only [List.length_set]; exact hl_P) rg_y0 rgz, if_neg (own_pne pv_y0 hz (by decide)), own_pvs hl_P rg_y1 rgz, if_neg (own_pne pv_y1 hz (by decide))]; exact hz)
      exact own_retV X19 hx hby Bd.notSynchronized Bd.returns d5_62 (by decide) (by decide) eH19 ⟨rfl, N19, K0, (by simp only [if_neg hc4, if_neg hc13]; exact V_position_o0), (by simp only [if_neg hc4, if_neg hc13]; exact V_heap_o0), (by simp only [if_neg hc4, if_neg hc13]; exact HH), (by simp only [if_neg hc4, if_neg hc13]; exact HA)⟩
theorem ef101 (m : MethodId) (x0 : Addr) (x2 : Int32) : entryFrame m #[(.ref x0), (.int (0 : Int32)), (.int x2)] 5 = mkF m 0 #[.val (.ref x0), .val (.int (0 : Int32)), .val (.int x2), .unset, .unset] [] := by first | (simp [entryFrame, mkF, argsToLocals, Value.category]; done) | rfl
def Q101 (Z : State) (o0 : Addr) (p2 : Int32) (heap_o0 : Addr) (position_o0 : Addr) (key_o0 : Addr) (y0 : Int32) (y1 : Int32) (y2 : Int32) (y3 : Int32) (P : List Int32) (K : List UInt64) (h0 : Heap) (n0 : Nat) (v : Option Value) (h : Heap) (L : List Loc) : Prop := v = none ∧ Fr n0 L ∧ Keep h0 h [position_o0, heap_o0] ∧ Ary tr Z h position_o0 .int ((P.set p2.toNatClampNeg (0 : Int32)).map Value.int) ∧ Ary tr Z h heap_o0 .int [(.int p2), (.int y1), (.int y2), (.int y3)] ∧ (Hp1 p2 (P.set p2.toNatClampNeg (0 : Int32)) K) ∧ (∀ z : Int32, (0 ≤ z.toInt ∧ z.toInt < 4) → pv P z = -1 → pv (P.set p2.toNatClampNeg (0 : Int32)) z = -1) ∧ (∀ m : Int, m ≤ kv K p2 → m ≤ kv K p2)
set_option maxRecDepth 65536 in
set_option maxHeartbeats 40000000 in
theorem rm101 (l : Launch) (Z : State) (a0 : Array Value) (hw : ∀ d ∈ tables_1, d.before a0 Z = true) (ws : List Jvm.Cond) (o0 : Addr) (p2 : Int32) (heap_o0 : Addr) (position_o0 : Addr) (key_o0 : Addr) (y0 : Int32) (y1 : Int32) (y2 : Int32) (y3 : Int32) (P : List Int32) (K : List UInt64) (h0 : Heap) (n0 : Nat) (Z0 : n0 ≤ h0.size) (E_o0 : Exa Z h0 o0 "com/example/cross_town/crosstown/solve/NodeHeap") (F_o0_heap : Fld Z h0 o0 "com/example/cross_town/crosstown/solve/NodeHeap" "heap" "[I" (.ref heap_o0)) (F_o0_position : Fld Z h0 o0 "com/example/cross_town/crosstown/solve/NodeHeap" "position" "[I" (.ref position_o0)) (F_o0_key : Fld Z h0 o0 "com/example/cross_town/crosstown/solve/NodeHeap" "key" "[D" (.ref key_o0)) (V_heap_o0 : Ary tr Z h0 heap_o0 .int [(.int y0), (.int y1), (.int y2), (.int y3)]) (V_position_o0 : Ary tr Z h0 position_o0 .int (P.map Value.int)) (hl_P : (P.length = 4)) (V_key_o0 : Ary tr Z h0 key_o0 .double (K.map Value.double)) (hl_K : (K.length = 4)) (F_o0_size : Fld Z h0 o0 "com/example/cross_town/crosstown/solve/NodeHeap" "size" "I" (.int (1 : Int32))) (rg_p2 : (0 ≤ p2.toInt ∧ p2.toInt < 4)) (nnk : (NNk K)) (pv_p2 : (pv P p2 = 1)) (g_heap_o0 : n0 ≤ heap_o0) (ne_o0_heap_o0 : o0 ≠ heap_o0) (ne_position_o0_heap_o0 : position_o0 ≠ heap_o0) (g_position_o0 : n0 ≤ position_o0) (ne_o0_position_o0 : o0 ≠ position_o0) (ne_key_o0_position_o0 : key_o0 ≠ position_o0) (ne_key_o0_heap_o0 : key_o0 ≠ heap_o0) :
    MetFree l (⟨"com/example/cross_town/crosstown/solve/NodeHeap", "siftDown", "(II)V"⟩ : MethodName) (head1 (Jvm.Cond.code (⟨"com/example/cross_town/crosstown/solve/NodeHeap", "siftDown", "(II)V"⟩ : MethodName) prog_33_method_6_code 5 none :: ws) ({ frames := 1, cells := 0, slots := 0, locals := 14 } : Room)) (fun a U => a = #[(.ref o0), (.int (0 : Int32)), (.int p2)] ∧ Z.Warmed39 U.vm ∧ U.heap = h0) (fun _ _ _ _ _ => True) (fun _ U o U' => ∃ v L, o = .returned v ∧ Q101 Z o0 p2 heap_o0 position_o0 key_o0 y0 y1 y2 y3 P K h0 n0 v U'.heap L ∧ FrameEnd U o U' L ({ frames := 1, cells := 0, slots := 0, locals := 14 } : Room).cells ({ frames := 1, cells := 0, slots := 0, locals := 14 } : Room).slots) := by
  refine MetFree.of_bodySF (plainFor_of_name pn_com_example_cross_town_crosstown_solve_NodeHeap) hisR ?_
  intro p e s m args below meth c s₁ Bd hml0 hP hK
  obtain ⟨rfl, hZ, hh⟩ := hP
  have hx := Bd.exec
  have hby := Bd.bytes
  have hml : c.maxLocals = 5 := hml0
  have hown : s.vm.findClass "com/example/cross_town/crosstown/solve/NodeHeap" = some m.cls := findClass_of_methodNamed Bd.named
  have hnm := (name_of_methodNamed Bd.named Bd.method).1
  have X0 : Stand p l e ({ frames := 1, cells := 0, slots := 0, locals := 14 } : Room) s m #[(.ref o0), (.int (0 : Int32)), (.int p2)] below meth c s₁ [] 0 0 := Stand.of_body Bd
  have eH0 : s₁.heap = h0 := by rw [← hh, Bd.state]; rfl
  have N0 := Fr.nil n0
  have K0 := Keep.refl h0 [position_o0, heap_o0]
  show Gt p.tables e below (fun o U' => ∃ v L, o = .returned v ∧ Q101 Z o0 p2 heap_o0 position_o0 key_o0 y0 y1 y2 y3 P K h0 n0 v U'.heap L ∧ FrameEnd s o U' L ({ frames := 1, cells := 0, slots := 0, locals := 14 } : Room).cells ({ frames := 1, cells := 0, slots := 0, locals := 14 } : Room).slots) _
  refine own_cast (ef101 m o0 p2) ?_
  refine own_iloadN X0 hx hby rfl d10_0 (pc' := 1) rfl ?_
  refine own_istoreN X0 hx hby (L' := #[.val (.ref o0), .val (.int (0 : Int32)), .val (.int p2), .val (.int (0 : Int32)), .unset]) rfl d10_1 (pc' := 2) rfl ?_
  refine own_iconst X0 hx hby (v := (2 : Int32)) (by decide) d10_2 (pc' := 3) rfl ?_
  refine own_iloadN X0 hx hby rfl d10_3 (pc' := 4) rfl ?_
  refine own_imul X0 hx hby (v := (0 : Int32)) (by decide) d10_4 (pc' := 5) rfl ?_
  refine own_iconst X0 hx hby (v := (1 : Int32)) (by decide) d10_5 (pc' := 6) rfl ?_
  refine own_iadd X0 hx hby (v := (1 : Int32)) (by decide) d10_6 (pc' := 7) rfl ?_
  refine own_aloadN X0 hx hby rfl rfl d10_7 (pc' := 8) rfl ?_
  refine own_getF X0 hx hby hZ hown (host := "") (Or.inl (hw _ (List.mem_of_getElem? (i := 27) rfl))) Via.refl eH0 F_o0_size d10_8 (pc' := 11) rfl (fun T1 X1 eH1 => ?_)
  refine own_icT X1 hx hby d10_11 (by decide) (by decide) (pc' := 108) (by decide) ?_
  refine own_aloadN X1 hx hby rfl rfl d10_108 (pc' := 109) rfl ?_
  refine own_iloadN X1 hx hby rfl d10_109 (pc' := 110) rfl ?_
  refine own_iloadN X1 hx hby rfl d10_110 (pc' := 111) rfl ?_
  refine own_private X1 hx hby hZ (y := (⟨"com/example/cross_town/crosstown/solve/NodeHeap", "place", "(II)V"⟩ : MethodName)) (rest := []) hown (hw _ (List.mem_of_getElem? (i := 33) rfl)) (hw _ (List.mem_of_getElem? (i := 34) rfl)) (hw _ (List.mem_of_getElem? (i := 2) rfl)) (hw _ (List.mem_of_getElem? (i := 35) rfl)) (hw _ (List.mem_of_getElem? (i := 36) rfl)) (hw _ (List.mem_of_getElem? (i := 3) rfl)) (by decide) (rm60 l Z a0 hw [] o0 p2 heap_o0 position_o0 y0 y1 y2 y3 P h0 n0 Z0 E_o0 F_o0_heap F_o0_position V_heap_o0 V_position_o0 (by first | assumption | rfl | (simp only [List.length_set]; first | assumption | rfl)) rg_p2 g_heap_o0 ne_o0_heap_o0 ne_position_o0_heap_o0 g_position_o0 ne_o0_position_o0) eH1 (by rw [hml]; rfl) (a := o0) E_o0 (argsL := [(.int (0 : Int32)), (.int p2)]) rfl (lenOf pd_1 rfl) rfl d10_111 (pc' := 114) rfl (by decide) (W := 0) (Nat.le_of_eq rfl) (by decide) (by decide) (by decide) (fun T2 h2 Lc2 v2r X2 eH2 hQ2 => ?_)
  obtain ⟨rfl, Nq2, Kq2, gq2_0, gq2_1⟩ := hQ2
  have N2 := Fr.app N0 Nq2
  replace E_o0 := E_o0.keep Kq2
  replace F_o0_heap := F_o0_heap.keep Kq2 (ninS ne_o0_heap_o0 (ninS ne_o0_position_o0 nin0))
  replace F_o0_position := F_o0_position.keep Kq2 (ninS ne_o0_heap_o0 (ninS ne_o0_position_o0 nin0))
  replace F_o0_key := F_o0_key.keep Kq2 (ninS ne_o0_heap_o0 (ninS ne_o0_position_o0 nin0))
  replace F_o0_size := F_o0_size.keep Kq2 (ninS ne_o0_heap_o0 (ninS ne_o0_position_o0 nin0))
  replace V_key_o0 := V_key_o0.keep Kq2 (ninS ne_key_o0_heap_o0 (ninS ne_key_o0_position_o0 nin0))
  replace K0 := K0.trans Kq2 (allS (Or.inl (by simp)) (allS (Or.inl (by simp)) all0))
  have V_heap_o0 := gq2_0
  have hl3 : (P.set p2.toNatClampNeg (0 : Int32)).length = 4 := by (repeat' split) <;> (simp only [List.length_set]; first | assumption | rfl)
  have V_position_o0 := gq2_1
  replace Z0 := Nat.le_trans Z0 Kq2.1
  have HH : Hp1 p2 (P.set p2.toNatClampNeg (0 : Int32)) K := ⟨rg_p2, (by rw [own_pvs hl_P rg_p2 rg_p2, if_pos rfl]; first | done | decide)⟩
  have HA : ∀ z : Int32, (0 ≤ z.toInt ∧ z.toInt < 4) → pv P z = -1 → pv (P.set p2.toNatClampNeg (0 : Int32)) z = -1 := fun z rgz hz => (by rw [own_pvs hl_P rg_p2 rgz, if_neg (own_pne pv_p2 hz (by decide))]; exact hz)
  have HB : ∀ m : Int, m ≤ kv K p2 → m ≤ kv K p2 := fun m m0 => m0
  exact own_retV X2 hx hby Bd.notSynchronized Bd.returns d10_114 (by decide) (by decide) eH2 ⟨rfl, N2, K0, V_position_o0, V_heap_o0, HH, HA, HB⟩
theorem ef102 (m : MethodId) (x0 : Addr) (x2 : Int32) : entryFrame m #[(.ref x0), (.int (0 : Int32)), (.int x2)] 5 = mkF m 0 #[.val (.ref x0), .val (.int (0 : Int32)), .val (.int x2), .unset, .unset] [] := by first | (simp [entryFrame, mkF, argsToLocals, Value.category]; done) | rfl
def Q102 (Z : State) (o0 : Addr) (p2 : Int32) (heap_o0 : Addr) (position_o0 : Addr) (key_o0 : Addr) (y0 : Int32) (y1 : Int32) (y2 : Int32) (y3 : Int32) (P : List Int32) (K : List UInt64) (h0 : Heap) (n0 : Nat) (v : Option Value) (h : Heap) (L : List Loc) : Prop := v = none ∧ Fr n0 L ∧ Keep h0 h [position_o0, heap_o0] ∧ Ary tr Z h position_o0 .int ((if dle (K.getD p2.toNatClampNeg 0) (K.getD y1.toNatClampNeg 0) then (P.set p2.toNatClampNeg (0 : Int32)) else ((P.set y1.toNatClampNeg (0 : Int32)).set p2.toNatClampNeg (1 : Int32))).map Value.int) ∧ Ary tr Z h heap_o0 .int [(.int (if dle (K.getD p2.toNatClampNeg 0) (K.getD y1.toNatClampNeg 0) then p2 else y1)), (.int (if dle (K.getD p2.toNatClampNeg 0) (K.getD y1.toNatClampNeg 0) then y1 else p2)), (.int y2), (.int y3)] ∧ (Hp2 (if dle (K.getD p2.toNatClampNeg 0) (K.getD y1.toNatClampNeg 0) then p2 else y1) (if dle (K.getD p2.toNatClampNeg 0) (K.getD y1.toNatClampNeg 0) then y1 else p2) (if dle (K.getD p2.toNatClampNeg 0) (K.getD y1.toNatClampNeg 0) then (P.set p2.toNatClampNeg (0 : Int32)) else ((P.set y1.toNatClampNeg (0 : Int32)).set p2.toNatClampNeg (1 : Int32))) K) ∧ (∀ z : Int32, (0 ≤ z.toInt ∧ z.toInt < 4) → pv P z = -1 → pv (if dle (K.getD p2.toNatClampNeg 0) (K.getD y1.toNatClampNeg 0) then (P.set p2.toNatClampNeg (0 : Int32)) else ((P.set y1.toNatClampNeg (0 : Int32)).set p2.toNatClampNeg (1 : Int32))) z = -1) ∧ (∀ m : Int, m ≤ kv K p2 → m ≤ kv K y1 → m ≤ kv K (if dle (K.getD p2.toNatClampNeg 0) (K.getD y1.toNatClampNeg 0) then p2 else y1) ∧ m ≤ kv K (if dle (K.getD p2.toNatClampNeg 0) (K.getD y1.toNatClampNeg 0) then y1 else p2))
set_option maxRecDepth 65536 in
set_option maxHeartbeats 40000000 in
theorem rm102 (l : Launch) (Z : State) (a0 : Array Value) (hw : ∀ d ∈ tables_1, d.before a0 Z = true) (ws : List Jvm.Cond) (o0 : Addr) (p2 : Int32) (heap_o0 : Addr) (position_o0 : Addr) (key_o0 : Addr) (y0 : Int32) (y1 : Int32) (y2 : Int32) (y3 : Int32) (P : List Int32) (K : List UInt64) (h0 : Heap) (n0 : Nat) (Z0 : n0 ≤ h0.size) (E_o0 : Exa Z h0 o0 "com/example/cross_town/crosstown/solve/NodeHeap") (F_o0_heap : Fld Z h0 o0 "com/example/cross_town/crosstown/solve/NodeHeap" "heap" "[I" (.ref heap_o0)) (F_o0_position : Fld Z h0 o0 "com/example/cross_town/crosstown/solve/NodeHeap" "position" "[I" (.ref position_o0)) (F_o0_key : Fld Z h0 o0 "com/example/cross_town/crosstown/solve/NodeHeap" "key" "[D" (.ref key_o0)) (V_heap_o0 : Ary tr Z h0 heap_o0 .int [(.int y0), (.int y1), (.int y2), (.int y3)]) (V_position_o0 : Ary tr Z h0 position_o0 .int (P.map Value.int)) (hl_P : (P.length = 4)) (V_key_o0 : Ary tr Z h0 key_o0 .double (K.map Value.double)) (hl_K : (K.length = 4)) (F_o0_size : Fld Z h0 o0 "com/example/cross_town/crosstown/solve/NodeHeap" "size" "I" (.int (2 : Int32))) (rg_p2 : (0 ≤ p2.toInt ∧ p2.toInt < 4)) (nnk : (NNk K)) (pv_p2 : (pv P p2 = 2)) (rg_y1 : (0 ≤ y1.toInt ∧ y1.toInt < 4)) (pv_y1 : (pv P y1 = 1)) (g_heap_o0 : n0 ≤ heap_o0) (ne_o0_heap_o0 : o0 ≠ heap_o0) (ne_position_o0_heap_o0 : position_o0 ≠ heap_o0) (g_position_o0 : n0 ≤ position_o0) (ne_o0_position_o0 : o0 ≠ position_o0) (ne_key_o0_position_o0 : key_o0 ≠ position_o0) (ne_key_o0_heap_o0 : key_o0 ≠ heap_o0) :
    MetFree l (⟨"com/example/cross_town/crosstown/solve/NodeHeap", "siftDown", "(II)V"⟩ : MethodName) (head1 (Jvm.Cond.code (⟨"com/example/cross_town/crosstown/solve/NodeHeap", "siftDown", "(II)V"⟩ : MethodName) prog_33_method_6_code 5 none :: ws) ({ frames := 1, cells := 0, slots := 0, locals := 14 } : Room)) (fun a U => a = #[(.ref o0), (.int (0 : Int32)), (.int p2)] ∧ Z.Warmed39 U.vm ∧ U.heap = h0) (fun _ _ _ _ _ => True) (fun _ U o U' => ∃ v L, o = .returned v ∧ Q102 Z o0 p2 heap_o0 position_o0 key_o0 y0 y1 y2 y3 P K h0 n0 v U'.heap L ∧ FrameEnd U o U' L ({ frames := 1, cells := 0, slots := 0, locals := 14 } : Room).cells ({ frames := 1, cells := 0, slots := 0, locals := 14 } : Room).slots) := by
  refine MetFree.of_bodySF (plainFor_of_name pn_com_example_cross_town_crosstown_solve_NodeHeap) hisR ?_
  intro p e s m args below meth c s₁ Bd hml0 hP hK
  obtain ⟨rfl, hZ, hh⟩ := hP
  have hx := Bd.exec
  have hby := Bd.bytes
  have hml : c.maxLocals = 5 := hml0
  have hown : s.vm.findClass "com/example/cross_town/crosstown/solve/NodeHeap" = some m.cls := findClass_of_methodNamed Bd.named
  have hnm := (name_of_methodNamed Bd.named Bd.method).1
  have X0 : Stand p l e ({ frames := 1, cells := 0, slots := 0, locals := 14 } : Room) s m #[(.ref o0), (.int (0 : Int32)), (.int p2)] below meth c s₁ [] 0 0 := Stand.of_body Bd
  have eH0 : s₁.heap = h0 := by rw [← hh, Bd.state]; rfl
  have N0 := Fr.nil n0
  have K0 := Keep.refl h0 [position_o0, heap_o0]
  show Gt p.tables e below (fun o U' => ∃ v L, o = .returned v ∧ Q102 Z o0 p2 heap_o0 position_o0 key_o0 y0 y1 y2 y3 P K h0 n0 v U'.heap L ∧ FrameEnd s o U' L ({ frames := 1, cells := 0, slots := 0, locals := 14 } : Room).cells ({ frames := 1, cells := 0, slots := 0, locals := 14 } : Room).slots) _
  refine own_cast (ef102 m o0 p2) ?_
  have d_y1_p2 : ¬ y1.toInt = p2.toInt := own_pne pv_y1 pv_p2 (by decide)
  have d_p2_y1 : ¬ p2.toInt = y1.toInt := own_pne pv_p2 pv_y1 (by decide)
  refine own_iloadN X0 hx hby rfl d10_0 (pc' := 1) rfl ?_
  refine own_istoreN X0 hx hby (L' := #[.val (.ref o0), .val (.int (0 : Int32)), .val (.int p2), .val (.int (0 : Int32)), .unset]) rfl d10_1 (pc' := 2) rfl ?_
  refine own_iconst X0 hx hby (v := (2 : Int32)) (by decide) d10_2 (pc' := 3) rfl ?_
  refine own_iloadN X0 hx hby rfl d10_3 (pc' := 4) rfl ?_
  refine own_imul X0 hx hby (v := (0 : Int32)) (by decide) d10_4 (pc' := 5) rfl ?_
  refine own_iconst X0 hx hby (v := (1 : Int32)) (by decide) d10_5 (pc' := 6) rfl ?_
  refine own_iadd X0 hx hby (v := (1 : Int32)) (by decide) d10_6 (pc' := 7) rfl ?_
  refine own_aloadN X0 hx hby rfl rfl d10_7 (pc' := 8) rfl ?_
  refine own_getF X0 hx hby hZ hown (host := "") (Or.inl (hw _ (List.mem_of_getElem? (i := 27) rfl))) Via.refl eH0 F_o0_size d10_8 (pc' := 11) rfl (fun T1 X1 eH1 => ?_)
  refine own_icF X1 hx hby d10_11 (by decide) (pc' := 14) rfl ?_
  refine own_iconst X1 hx hby (v := (2 : Int32)) (by decide) d10_14 (pc' := 15) rfl ?_
  refine own_iloadN X1 hx hby rfl d10_15 (pc' := 16) rfl ?_
  refine own_imul X1 hx hby (v := (0 : Int32)) (by decide) d10_16 (pc' := 17) rfl ?_
  refine own_iconst X1 hx hby (v := (1 : Int32)) (by decide) d10_17 (pc' := 18) rfl ?_
  refine own_iadd X1 hx hby (v := (1 : Int32)) (by decide) d10_18 (pc' := 19) rfl ?_
  refine own_istore X1 hx hby (L' := #[.val (.ref o0), .val (.int (0 : Int32)), .val (.int p2), .val (.int (0 : Int32)), .val (.int (1 : Int32))]) rfl d10_19 (pc' := 21) rfl ?_
  refine own_iload X1 hx hby rfl d10_21 (pc' := 23) rfl ?_
  refine own_iconst X1 hx hby (v := (1 : Int32)) (by decide) d10_23 (pc' := 24) rfl ?_
  refine own_iadd X1 hx hby (v := (2 : Int32)) (by decide) d10_24 (pc' := 25) rfl ?_
  refine own_aloadN X1 hx hby rfl rfl d10_25 (pc' := 26) rfl ?_
  refine own_getF X1 hx hby hZ hown (host := "") (Or.inl (hw _ (List.mem_of_getElem? (i := 27) rfl))) Via.refl eH1 F_o0_size d10_26 (pc' := 29) rfl (fun T2 X2 eH2 => ?_)
  refine own_icT X2 hx hby d10_29 (by decide) (by decide) (pc' := 65) (by decide) ?_
  refine own_aloadN X2 hx hby rfl rfl d10_65 (pc' := 66) rfl ?_
  refine own_getF X2 hx hby hZ hown (host := "") (Or.inl (hw _ (List.mem_of_getElem? (i := 16) rfl))) Via.refl eH2 F_o0_key d10_66 (pc' := 69) rfl (fun T3 X3 eH3 => ?_)
  refine own_iloadN X3 hx hby rfl d10_69 (pc' := 70) rfl ?_
  refine own_daload X3 hx hby hZ eH3 V_key_o0 (own_rg0 rg_p2) (v := (.double (K.getD p2.toNatClampNeg 0))) (own_lget (own_rgl rg_p2 hl_K)) d10_70 (pc' := 71) rfl ?_
  refine own_aloadN X3 hx hby rfl rfl d10_71 (pc' := 72) rfl ?_
  refine own_getF X3 hx hby hZ hown (host := "") (Or.inl (hw _ (List.mem_of_getElem? (i := 16) rfl))) Via.refl eH3 F_o0_key d10_72 (pc' := 75) rfl (fun T4 X4 eH4 => ?_)
  refine own_aloadN X4 hx hby rfl rfl d10_75 (pc' := 76) rfl ?_
  refine own_getF X4 hx hby hZ hown (host := "") (Or.inl (hw _ (List.mem_of_getElem? (i := 11) rfl))) Via.refl eH4 F_o0_heap d10_76 (pc' := 79) rfl (fun T5 X5 eH5 => ?_)
  refine own_iload X5 hx hby rfl d10_79 (pc' := 81) rfl ?_
  refine own_iaload X5 hx hby hZ eH5 V_heap_o0 (by decide) (v := (.int y1)) rfl d10_81 (pc' := 82) rfl ?_
  refine own_daload X5 hx hby hZ eH5 V_key_o0 (own_rg0 rg_y1) (v := (.double (K.getD y1.toNatClampNeg 0))) (own_lget (own_rgl rg_y1 hl_K)) d10_82 (pc' := 83) rfl ?_
  refine own_dcmp X5 hx hby rfl d10_83 (pc' := 84) rfl ?_
  by_cases hc6 : dle (K.getD p2.toNatClampNeg 0) (K.getD y1.toNatClampNeg 0)
  · refine own_ifF X5 hx hby d10_84 (own_dg_gt_p hc6) (pc' := 87) rfl ?_
    refine own_goto X5 hx hby d10_87 (by decide) (pc' := 108) (by decide) ?_
    refine own_aloadN X5 hx hby rfl rfl d10_108 (pc' := 109) rfl ?_
    refine own_iloadN X5 hx hby rfl d10_109 (pc' := 110) rfl ?_
    refine own_iloadN X5 hx hby rfl d10_110 (pc' := 111) rfl ?_
    refine own_private X5 hx hby hZ (y := (⟨"com/example/cross_town/crosstown/solve/NodeHeap", "place", "(II)V"⟩ : MethodName)) (rest := []) hown (hw _ (List.mem_of_getElem? (i := 33) rfl)) (hw _ (List.mem_of_getElem? (i := 34) rfl)) (hw _ (List.mem_of_getElem? (i := 2) rfl)) (hw _ (List.mem_of_getElem? (i := 35) rfl)) (hw _ (List.mem_of_getElem? (i := 36) rfl)) (hw _ (List.mem_of_getElem? (i := 3) rfl)) (by decide) (rm60 l Z a0 hw [] o0 p2 heap_o0 position_o0 y0 y1 y2 y3 P h0 n0 Z0 E_o0 F_o0_heap F_o0_position V_heap_o0 V_position_o0 (by first | assumption | rfl | (simp only [List.length_set]; first | assumption | rfl)) rg_p2 g_heap_o0 ne_o0_heap_o0 ne_position_o0_heap_o0 g_position_o0 ne_o0_position_o0) eH5 (by rw [hml]; rfl) (a := o0) E_o0 (argsL := [(.int (0 : Int32)), (.int p2)]) rfl (lenOf pd_1 rfl) rfl d10_111 (pc' := 114) rfl (by decide) (W := 0) (Nat.le_of_eq rfl) (by decide) (by decide) (by decide) (fun T7 h7 Lc7 v7r X7 eH7 hQ7 => ?_)
    obtain ⟨rfl, Nq7, Kq7, gq7_0, gq7_1⟩ := hQ7
    have N7 := Fr.app N0 Nq7
    replace E_o0 := E_o0.keep Kq7
    replace F_o0_heap := F_o0_heap.keep Kq7 (ninS ne_o0_heap_o0 (ninS ne_o0_position_o0 nin0))
    replace F_o0_position := F_o0_position.keep Kq7 (ninS ne_o0_heap_o0 (ninS ne_o0_position_o0 nin0))
    replace F_o0_key := F_o0_key.keep Kq7 (ninS ne_o0_heap_o0 (ninS ne_o0_position_o0 nin0))
    replace F_o0_size := F_o0_size.keep Kq7 (ninS ne_o0_heap_o0 (ninS ne_o0_position_o0 nin0))
    replace V_key_o0 := V_key_o0.keep Kq7 (ninS ne_key_o0_heap_o0 (ninS ne_key_o0_position_o0 nin0))
    replace K0 := K0.trans Kq7 (allS (Or.inl (by simp)) (allS (Or.inl (by simp)) all0))
    have V_heap_o0 := gq7_0
    have hl8 : (P.set p2.toNatClampNeg (0 : Int32)).length = 4 := by (repeat' split) <;> (simp only [List.length_set]; first | assumption | rfl)
    have V_position_o0 := gq7_1
    replace Z0 := Nat.le_trans Z0 Kq7.1
    have o0 := (own_kle nnk p2 y1).mp hc6
    have HH : Hp2 p2 y1 (P.set p2.toNatClampNeg (0 : Int32)) K := ⟨rg_p2, rg_y1, (by rw [own_pvs hl_P rg_p2 rg_p2, if_pos rfl]; first | done | decide), (by rw [own_pvs hl_P rg_p2 rg_y1, if_neg d_p2_y1]; exact pv_y1), (by omega)⟩
    have HA : ∀ z : Int32, (0 ≤ z.toInt ∧ z.toInt < 4) → pv P z = -1 → pv (P.set p2.toNatClampNeg (0 : Int32)) z = -1 := fun z rgz hz => (by rw [own_pvs hl_P rg_p2 rgz, if_neg (own_pne pv_p2 hz (by decide))]; exact hz)
    have HB : ∀ m : Int, m ≤ kv K p2 → m ≤ kv K y1 → m ≤ kv K p2 ∧ m ≤ kv K y1 := fun m m0 m1 => ⟨(by omega), (by omega)⟩
    exact own_retV X7 hx hby Bd.notSynchronized Bd.returns d10_114 (by decide) (by decide) eH7 ⟨rfl, N7, K0, (by simp only [if_pos hc6]; exact V_position_o0), (by simp only [if_pos hc6]; exact V_heap_o0), (by simp only [if_pos hc6]; exact HH), (by simp only [if_pos hc6]; exact HA), (by simp only [if_pos hc6]; exact HB)⟩
  · refine own_ifT X5 hx hby d10_84 (own_dg_gt_n hc6) (by decide) (pc' := 90) (by decide) ?_
    refine own_aloadN X5 hx hby rfl rfl d10_90 (pc' := 91) rfl ?_
    refine own_iloadN X5 hx hby rfl d10_91 (pc' := 92) rfl ?_
    refine own_aloadN X5 hx hby rfl rfl d10_92 (pc' := 93) rfl ?_
    refine own_getF X5 hx hby hZ hown (host := "") (Or.inl (hw _ (List.mem_of_getElem? (i := 11) rfl))) Via.refl eH5 F_o0_heap d10_93 (pc' := 96) rfl (fun T9 X9 eH9 => ?_)
    refine own_iload X9 hx hby rfl d10_96 (pc' := 98) rfl ?_
    refine own_iaload X9 hx hby hZ eH9 V_heap_o0 (by decide) (v := (.int y1)) rfl d10_98 (pc' := 99) rfl ?_
    refine own_private X9 hx hby hZ (y := (⟨"com/example/cross_town/crosstown/solve/NodeHeap", "place", "(II)V"⟩ : MethodName)) (rest := []) hown (hw _ (List.mem_of_getElem? (i := 33) rfl)) (hw _ (List.mem_of_getElem? (i := 34) rfl)) (hw _ (List.mem_of_getElem? (i := 2) rfl)) (hw _ (List.mem_of_getElem? (i := 35) rfl)) (hw _ (List.mem_of_getElem? (i := 36) rfl)) (hw _ (List.mem_of_getElem? (i := 3) rfl)) (by decide) (rm60 l Z a0 hw [] o0 y1 heap_o0 position_o0 y0 y1 y2 y3 P h0 n0 Z0 E_o0 F_o0_heap F_o0_position V_heap_o0 V_position_o0 (by first | assumption | rfl | (simp only [List.length_set]; first | assumption | rfl)) rg_y1 g_heap_o0 ne_o0_heap_o0 ne_position_o0_heap_o0 g_position_o0 ne_o0_position_o0) eH9 (by rw [hml]; rfl) (a := o0) E_o0 (argsL := [(.int (0 : Int32)), (.int y1)]) rfl (lenOf pd_1 rfl) rfl d10_99 (pc' := 102) rfl (by decide) (W := 0) (Nat.le_of_eq rfl) (by decide) (by decide) (by decide) (fun T10 h10 Lc10 v10r X10 eH10 hQ10 => ?_)
    obtain ⟨rfl, Nq10, Kq10, gq10_0, gq10_1⟩ := hQ10
    have N10 := Fr.app N0 Nq10
    replace E_o0 := E_o0.keep Kq10
    replace F_o0_heap := F_o0_heap.keep Kq10 (ninS ne_o0_heap_o0 (ninS ne_o0_position_o0 nin0))
    replace F_o0_position := F_o0_position.keep Kq10 (ninS ne_o0_heap_o0 (ninS ne_o0_position_o0 nin0))
    replace F_o0_key := F_o0_key.keep Kq10 (ninS ne_o0_heap_o0 (ninS ne_o0_position_o0 nin0))
    replace F_o0_size := F_o0_size.keep Kq10 (ninS ne_o0_heap_o0 (ninS ne_o0_position_o0 nin0))
    replace V_key_o0 := V_key_o0.keep Kq10 (ninS ne_key_o0_heap_o0 (ninS ne_key_o0_position_o0 nin0))
    replace K0 := K0.trans Kq10 (allS (Or.inl (by simp)) (allS (Or.inl (by simp)) all0))
    have V_heap_o0 := gq10_0
    have hl11 : (P.set y1.toNatClampNeg (0 : Int32)).length = 4 := by (repeat' split) <;> (simp only [List.length_set]; first | assumption | rfl)
    have V_position_o0 := gq10_1
    replace Z0 := Nat.le_trans Z0 Kq10.1
    refine own_iload X10 hx hby rfl d10_102 (pc' := 104) rfl ?_
    refine own_istoreN X10 hx hby (L' := #[.val (.ref o0), .val (.int (0 : Int32)), .val (.int p2), .val (.int (1 : Int32)), .val (.int (1 : Int32))]) rfl d10_104 (pc' := 105) rfl ?_
    refine own_goto X10 hx hby d10_105 (by decide) (pc' := 2) (by decide) ?_
    refine own_iconst X10 hx hby (v := (2 : Int32)) (by decide) d10_2 (pc' := 3) rfl ?_
    refine own_iloadN X10 hx hby rfl d10_3 (pc' := 4) rfl ?_
    refine own_imul X10 hx hby (v := (2 : Int32)) (by decide) d10_4 (pc' := 5) rfl ?_
    refine own_iconst X10 hx hby (v := (1 : Int32)) (by decide) d10_5 (pc' := 6) rfl ?_
    refine own_iadd X10 hx hby (v := (3 : Int32)) (by decide) d10_6 (pc' := 7) rfl ?_
    refine own_aloadN X10 hx hby rfl rfl d10_7 (pc' := 8) rfl ?_
    refine own_getF X10 hx hby hZ hown (host := "") (Or.inl (hw _ (List.mem_of_getElem? (i := 27) rfl))) Via.refl eH10 F_o0_size d10_8 (pc' := 11) rfl (fun T12 X12 eH12 => ?_)
    refine own_icT X12 hx hby d10_11 (by decide) (by decide) (pc' := 108) (by decide) ?_
    refine own_aloadN X12 hx hby rfl rfl d10_108 (pc' := 109) rfl ?_
    refine own_iloadN X12 hx hby rfl d10_109 (pc' := 110) rfl ?_
    refine own_iloadN X12 hx hby rfl d10_110 (pc' := 111) rfl ?_
    refine own_private X12 hx hby hZ (y := (⟨"com/example/cross_town/crosstown/solve/NodeHeap", "place", "(II)V"⟩ : MethodName)) (rest := []) hown (hw _ (List.mem_of_getElem? (i := 33) rfl)) (hw _ (List.mem_of_getElem? (i := 34) rfl)) (hw _ (List.mem_of_getElem? (i := 2) rfl)) (hw _ (List.mem_of_getElem? (i := 35) rfl)) (hw _ (List.mem_of_getElem? (i := 36) rfl)) (hw _ (List.mem_of_getElem? (i := 3) rfl)) (by decide) (rm61 l Z a0 hw [] o0 p2 heap_o0 position_o0 y1 y1 y2 y3 (P.set y1.toNatClampNeg (0 : Int32)) h10 n0 Z0 E_o0 F_o0_heap F_o0_position V_heap_o0 V_position_o0 (by first | assumption | rfl | (simp only [List.length_set]; first | assumption | rfl)) rg_p2 g_heap_o0 ne_o0_heap_o0 ne_position_o0_heap_o0 g_position_o0 ne_o0_position_o0) eH12 (by rw [hml]; rfl) (a := o0) E_o0 (argsL := [(.int (1 : Int32)), (.int p2)]) rfl (lenOf pd_1 rfl) rfl d10_111 (pc' := 114) rfl (by decide) (W := 0) (Nat.le_of_eq rfl) (by decide) (by decide) (by decide) (fun T13 h13 Lc13 v13r X13 eH13 hQ13 => ?_)
    obtain ⟨rfl, Nq13, Kq13, gq13_0, gq13_1⟩ := hQ13
    have N13 := Fr.app N10 Nq13
    replace E_o0 := E_o0.keep Kq13
    replace F_o0_heap := F_o0_heap.keep Kq13 (ninS ne_o0_heap_o0 (ninS ne_o0_position_o0 nin0))
    replace F_o0_position := F_o0_position.keep Kq13 (ninS ne_o0_heap_o0 (ninS ne_o0_position_o0 nin0))
    replace F_o0_key := F_o0_key.keep Kq13 (ninS ne_o0_heap_o0 (ninS ne_o0_position_o0 nin0))
    replace F_o0_size := F_o0_size.keep Kq13 (ninS ne_o0_heap_o0 (ninS ne_o0_position_o0 nin0))
    replace V_key_o0 := V_key_o0.keep Kq13 (ninS ne_key_o0_heap_o0 (ninS ne_key_o0_position_o0 nin0))
    replace K0 := K0.trans Kq13 (allS (Or.inl (by simp)) (allS (Or.inl (by simp)) all0))
    have V_heap_o0 := gq13_0
    have hl14 : ((P.set y1.toNatClampNeg (0 : Int32)).set p2.toNatClampNeg (1 : Int32)).length = 4 := by (repeat' split) <;> (simp only [List.length_set]; first | assumption | rfl)
    have V_position_o0 := gq13_1
    replace Z0 := Nat.le_trans Z0 Kq13.1
    have o0 := mt (own_kle nnk p2 y1).mpr hc6
    have HH : Hp2 y1 p2 ((P.set y1.toNatClampNeg (0 : Int32)).set p2.toNatClampNeg (1 : Int32)) K := ⟨rg_y1, rg_p2, (by rw [own_pvs (by simp only [List.length_set]; exact hl_P) rg_p2 rg_y1, if_neg d_p2_y1, own_pvs hl_P rg_y1 rg_y1, if_pos rfl]; first | done | decide), (by rw [own_pvs (by simp only [List.length_set]; exact hl_P) rg_p2 rg_p2, if_pos rfl]; first | done | decide), (by omega)⟩
    have HA : ∀ z : Int32, (0 ≤ z.toInt ∧ z.toInt < 4) → pv P z = -1 → pv ((P.set y1.toNatClampNeg (0 : Int32)).set p2.toNatClampNeg (1 : Int32)) z = -1 := fun z rgz hz => (by rw [own_pvs (by simp only [List.length_set]; exact hl_P) rg_p2 rgz, if_neg (own_pne pv_p2 hz (by decide)), own_pvs hl_P rg_y1 rgz, if_neg (own_pne pv_y1 hz (by decide))]; exact hz)
    have HB : ∀ m : Int, m ≤ kv K p2 → m ≤ kv K y1 → m ≤ kv K y1 ∧ m ≤ kv K p2 := fun m m0 m1 => ⟨(by omega), (by omega)⟩
    exact own_retV X13 hx hby Bd.notSynchronized Bd.returns d10_114 (by decide) (by decide) eH13 ⟨rfl, N13, K0, (by simp only [if_neg hc6]; exact V_position_o0), (by simp only [if_neg hc6]; exact V_heap_o0), (by simp only [if_neg hc6]; exact HH), (by simp only [if_neg hc6]; exact HA), (by simp only [if_neg hc6]; exact HB)⟩
theorem ef103 (m : MethodId) (x0 : Addr) (x2 : Int32) : entryFrame m #[(.ref x0), (.int (0 : Int32)), (.int x2)] 5 = mkF m 0 #[.val (.ref x0), .val (.int (0 : Int32)), .val (.int x2), .unset, .unset] [] := by first | (simp [entryFrame, mkF, argsToLocals, Value.category]; done) | rfl
def Q103 (Z : State) (o0 : Addr) (p2 : Int32) (heap_o0 : Addr) (position_o0 : Addr) (key_o0 : Addr) (y0 : Int32) (y1 : Int32) (y2 : Int32) (y3 : Int32) (P : List Int32) (K : List UInt64) (h0 : Heap) (n0 : Nat) (v : Option Value) (h : Heap) (L : List Loc) : Prop := v = none ∧ Fr n0 L ∧ Keep h0 h [position_o0, heap_o0] ∧ Ary tr Z h position_o0 .int ((if dlt (K.getD y2.toNatClampNeg 0) (K.getD y1.toNatClampNeg 0) then (if dle (K.getD p2.toNatClampNeg 0) (K.getD y2.toNatClampNeg 0) then (P.set p2.toNatClampNeg (0 : Int32)) else ((P.set y2.toNatClampNeg (0 : Int32)).set p2.toNatClampNeg (2 : Int32))) else (if dle (K.getD p2.toNatClampNeg 0) (K.getD y1.toNatClampNeg 0) then (P.set p2.toNatClampNeg (0 : Int32)) else ((P.set y1.toNatClampNeg (0 : Int32)).set p2.toNatClampNeg (1 : Int32)))).map Value.int) ∧ Ary tr Z h heap_o0 .int [(.int (if dlt (K.getD y2.toNatClampNeg 0) (K.getD y1.toNatClampNeg 0) then (if dle (K.getD p2.toNatClampNeg 0) (K.getD y2.toNatClampNeg 0) then p2 else y2) else (if dle (K.getD p2.toNatClampNeg 0) (K.getD y1.toNatClampNeg 0) then p2 else y1))), (.int (if dlt (K.getD y2.toNatClampNeg 0) (K.getD y1.toNatClampNeg 0) then (if dle (K.getD p2.toNatClampNeg 0) (K.getD y2.toNatClampNeg 0) then y1 else y1) else (if dle (K.getD p2.toNatClampNeg 0) (K.getD y1.toNatClampNeg 0) then y1 else p2))), (.int (if dlt (K.getD y2.toNatClampNeg 0) (K.getD y1.toNatClampNeg 0) then (if dle (K.getD p2.toNatClampNeg 0) (K.getD y2.toNatClampNeg 0) then y2 else p2) else (if dle (K.getD p2.toNatClampNeg 0) (K.getD y1.toNatClampNeg 0) then y2 else y2))), (.int y3)] ∧ (Hp3 (if dlt (K.getD y2.toNatClampNeg 0) (K.getD y1.toNatClampNeg 0) then (if dle (K.getD p2.toNatClampNeg 0) (K.getD y2.toNatClampNeg 0) then p2 else y2) else (if dle (K.getD p2.toNatClampNeg 0) (K.getD y1.toNatClampNeg 0) then p2 else y1)) (if dlt (K.getD y2.toNatClampNeg 0) (K.getD y1.toNatClampNeg 0) then (if dle (K.getD p2.toNatClampNeg 0) (K.getD y2.toNatClampNeg 0) then y1 else y1) else (if dle (K.getD p2.toNatClampNeg 0) (K.getD y1.toNatClampNeg 0) then y1 else p2)) (if dlt (K.getD y2.toNatClampNeg 0) (K.getD y1.toNatClampNeg 0) then (if dle (K.getD p2.toNatClampNeg 0) (K.getD y2.toNatClampNeg 0) then y2 else p2) else (if dle (K.getD p2.toNatClampNeg 0) (K.getD y1.toNatClampNeg 0) then y2 else y2)) (if dlt (K.getD y2.toNatClampNeg 0) (K.getD y1.toNatClampNeg 0) then (if dle (K.getD p2.toNatClampNeg 0) (K.getD y2.toNatClampNeg 0) then (P.set p2.toNatClampNeg (0 : Int32)) else ((P.set y2.toNatClampNeg (0 : Int32)).set p2.toNatClampNeg (2 : Int32))) else (if dle (K.getD p2.toNatClampNeg 0) (K.getD y1.toNatClampNeg 0) then (P.set p2.toNatClampNeg (0 : Int32)) else ((P.set y1.toNatClampNeg (0 : Int32)).set p2.toNatClampNeg (1 : Int32)))) K) ∧ (∀ z : Int32, (0 ≤ z.toInt ∧ z.toInt < 4) → pv P z = -1 → pv (if dlt (K.getD y2.toNatClampNeg 0) (K.getD y1.toNatClampNeg 0) then (if dle (K.getD p2.toNatClampNeg 0) (K.getD y2.toNatClampNeg 0) then (P.set p2.toNatClampNeg (0 : Int32)) else ((P.set y2.toNatClampNeg (0 : Int32)).set p2.toNatClampNeg (2 : Int32))) else (if dle (K.getD p2.toNatClampNeg 0) (K.getD y1.toNatClampNeg 0) then (P.set p2.toNatClampNeg (0 : Int32)) else ((P.set y1.toNatClampNeg (0 : Int32)).set p2.toNatClampNeg (1 : Int32)))) z = -1) ∧ (∀ m : Int, m ≤ kv K p2 → m ≤ kv K y1 → m ≤ kv K y2 → m ≤ kv K (if dlt (K.getD y2.toNatClampNeg 0) (K.getD y1.toNatClampNeg 0) then (if dle (K.getD p2.toNatClampNeg 0) (K.getD y2.toNatClampNeg 0) then p2 else y2) else (if dle (K.getD p2.toNatClampNeg 0) (K.getD y1.toNatClampNeg 0) then p2 else y1)) ∧ m ≤ kv K (if dlt (K.getD y2.toNatClampNeg 0) (K.getD y1.toNatClampNeg 0) then (if dle (K.getD p2.toNatClampNeg 0) (K.getD y2.toNatClampNeg 0) then y1 else y1) else (if dle (K.getD p2.toNatClampNeg 0) (K.getD y1.toNatClampNeg 0) then y1 else p2)) ∧ m ≤ kv K (if dlt (K.getD y2.toNatClampNeg 0) (K.getD y1.toNatClampNeg 0) then (if dle (K.getD p2.toNatClampNeg 0) (K.getD y2.toNatClampNeg 0) then y2 else p2) else (if dle (K.getD p2.toNatClampNeg 0) (K.getD y1.toNatClampNeg 0) then y2 else y2)))
set_option maxRecDepth 65536 in
set_option maxHeartbeats 40000000 in
theorem rm103 (l : Launch) (Z : State) (a0 : Array Value) (hw : ∀ d ∈ tables_1, d.before a0 Z = true) (ws : List Jvm.Cond) (o0 : Addr) (p2 : Int32) (heap_o0 : Addr) (position_o0 : Addr) (key_o0 : Addr) (y0 : Int32) (y1 : Int32) (y2 : Int32) (y3 : Int32) (P : List Int32) (K : List UInt64) (h0 : Heap) (n0 : Nat) (Z0 : n0 ≤ h0.size) (E_o0 : Exa Z h0 o0 "com/example/cross_town/crosstown/solve/NodeHeap") (F_o0_heap : Fld Z h0 o0 "com/example/cross_town/crosstown/solve/NodeHeap" "heap" "[I" (.ref heap_o0)) (F_o0_position : Fld Z h0 o0 "com/example/cross_town/crosstown/solve/NodeHeap" "position" "[I" (.ref position_o0)) (F_o0_key : Fld Z h0 o0 "com/example/cross_town/crosstown/solve/NodeHeap" "key" "[D" (.ref key_o0)) (V_heap_o0 : Ary tr Z h0 heap_o0 .int [(.int y0), (.int y1), (.int y2), (.int y3)]) (V_position_o0 : Ary tr Z h0 position_o0 .int (P.map Value.int)) (hl_P : (P.length = 4)) (V_key_o0 : Ary tr Z h0 key_o0 .double (K.map Value.double)) (hl_K : (K.length = 4)) (F_o0_size : Fld Z h0 o0 "com/example/cross_town/crosstown/solve/NodeHeap" "size" "I" (.int (3 : Int32))) (rg_p2 : (0 ≤ p2.toInt ∧ p2.toInt < 4)) (nnk : (NNk K)) (pv_p2 : (pv P p2 = 3)) (rg_y1 : (0 ≤ y1.toInt ∧ y1.toInt < 4)) (pv_y1 : (pv P y1 = 1)) (rg_y2 : (0 ≤ y2.toInt ∧ y2.toInt < 4)) (pv_y2 : (pv P y2 = 2)) (g_heap_o0 : n0 ≤ heap_o0) (ne_o0_heap_o0 : o0 ≠ heap_o0) (ne_position_o0_heap_o0 : position_o0 ≠ heap_o0) (g_position_o0 : n0 ≤ position_o0) (ne_o0_position_o0 : o0 ≠ position_o0) (ne_key_o0_position_o0 : key_o0 ≠ position_o0) (ne_key_o0_heap_o0 : key_o0 ≠ heap_o0) :
    MetFree l (⟨"com/example/cross_town/crosstown/solve/NodeHeap", "siftDown", "(II)V"⟩ : MethodName) (head1 (Jvm.Cond.code (⟨"com/example/cross_town/crosstown/solve/NodeHeap", "siftDown", "(II)V"⟩ : MethodName) prog_33_method_6_code 5 none :: ws) ({ frames := 1, cells := 0, slots := 0, locals := 14 } : Room)) (fun a U => a = #[(.ref o0), (.int (0 : Int32)), (.int p2)] ∧ Z.Warmed39 U.vm ∧ U.heap = h0) (fun _ _ _ _ _ => True) (fun _ U o U' => ∃ v L, o = .returned v ∧ Q103 Z o0 p2 heap_o0 position_o0 key_o0 y0 y1 y2 y3 P K h0 n0 v U'.heap L ∧ FrameEnd U o U' L ({ frames := 1, cells := 0, slots := 0, locals := 14 } : Room).cells ({ frames := 1, cells := 0, slots := 0, locals := 14 } : Room).slots) := by
  refine MetFree.of_bodySF (plainFor_of_name pn_com_example_cross_town_crosstown_solve_NodeHeap) hisR ?_
  intro p e s m args below meth c s₁ Bd hml0 hP hK
  obtain ⟨rfl, hZ, hh⟩ := hP
  have hx := Bd.exec
  have hby := Bd.bytes
  have hml : c.maxLocals = 5 := hml0
  have hown : s.vm.findClass "com/example/cross_town/crosstown/solve/NodeHeap" = some m.cls := findClass_of_methodNamed Bd.named
  have hnm := (name_of_methodNamed Bd.named Bd.method).1
  have X0 : Stand p l e ({ frames := 1, cells := 0, slots := 0, locals := 14 } : Room) s m #[(.ref o0), (.int (0 : Int32)), (.int p2)] below meth c s₁ [] 0 0 := Stand.of_body Bd
  have eH0 : s₁.heap = h0 := by rw [← hh, Bd.state]; rfl
  have N0 := Fr.nil n0
  have K0 := Keep.refl h0 [position_o0, heap_o0]
  show Gt p.tables e below (fun o U' => ∃ v L, o = .returned v ∧ Q103 Z o0 p2 heap_o0 position_o0 key_o0 y0 y1 y2 y3 P K h0 n0 v U'.heap L ∧ FrameEnd s o U' L ({ frames := 1, cells := 0, slots := 0, locals := 14 } : Room).cells ({ frames := 1, cells := 0, slots := 0, locals := 14 } : Room).slots) _
  refine own_cast (ef103 m o0 p2) ?_
  have d_y1_y2 : ¬ y1.toInt = y2.toInt := own_pne pv_y1 pv_y2 (by decide)
  have d_y1_p2 : ¬ y1.toInt = p2.toInt := own_pne pv_y1 pv_p2 (by decide)
  have d_y2_y1 : ¬ y2.toInt = y1.toInt := own_pne pv_y2 pv_y1 (by decide)
  have d_y2_p2 : ¬ y2.toInt = p2.toInt := own_pne pv_y2 pv_p2 (by decide)
  have d_p2_y1 : ¬ p2.toInt = y1.toInt := own_pne pv_p2 pv_y1 (by decide)
  have d_p2_y2 : ¬ p2.toInt = y2.toInt := own_pne pv_p2 pv_y2 (by decide)
  refine own_iloadN X0 hx hby rfl d10_0 (pc' := 1) rfl ?_
  refine own_istoreN X0 hx hby (L' := #[.val (.ref o0), .val (.int (0 : Int32)), .val (.int p2), .val (.int (0 : Int32)), .unset]) rfl d10_1 (pc' := 2) rfl ?_
  refine own_iconst X0 hx hby (v := (2 : Int32)) (by decide) d10_2 (pc' := 3) rfl ?_
  refine own_iloadN X0 hx hby rfl d10_3 (pc' := 4) rfl ?_
  refine own_imul X0 hx hby (v := (0 : Int32)) (by decide) d10_4 (pc' := 5) rfl ?_
  refine own_iconst X0 hx hby (v := (1 : Int32)) (by decide) d10_5 (pc' := 6) rfl ?_
  refine own_iadd X0 hx hby (v := (1 : Int32)) (by decide) d10_6 (pc' := 7) rfl ?_
  refine own_aloadN X0 hx hby rfl rfl d10_7 (pc' := 8) rfl ?_
  refine own_getF X0 hx hby hZ hown (host := "") (Or.inl (hw _ (List.mem_of_getElem? (i := 27) rfl))) Via.refl eH0 F_o0_size d10_8 (pc' := 11) rfl (fun T1 X1 eH1 => ?_)
  refine own_icF X1 hx hby d10_11 (by decide) (pc' := 14) rfl ?_
  refine own_iconst X1 hx hby (v := (2 : Int32)) (by decide) d10_14 (pc' := 15) rfl ?_
  refine own_iloadN X1 hx hby rfl d10_15 (pc' := 16) rfl ?_
  refine own_imul X1 hx hby (v := (0 : Int32)) (by decide) d10_16 (pc' := 17) rfl ?_
  refine own_iconst X1 hx hby (v := (1 : Int32)) (by decide) d10_17 (pc' := 18) rfl ?_
  refine own_iadd X1 hx hby (v := (1 : Int32)) (by decide) d10_18 (pc' := 19) rfl ?_
  refine own_istore X1 hx hby (L' := #[.val (.ref o0), .val (.int (0 : Int32)), .val (.int p2), .val (.int (0 : Int32)), .val (.int (1 : Int32))]) rfl d10_19 (pc' := 21) rfl ?_
  refine own_iload X1 hx hby rfl d10_21 (pc' := 23) rfl ?_
  refine own_iconst X1 hx hby (v := (1 : Int32)) (by decide) d10_23 (pc' := 24) rfl ?_
  refine own_iadd X1 hx hby (v := (2 : Int32)) (by decide) d10_24 (pc' := 25) rfl ?_
  refine own_aloadN X1 hx hby rfl rfl d10_25 (pc' := 26) rfl ?_
  refine own_getF X1 hx hby hZ hown (host := "") (Or.inl (hw _ (List.mem_of_getElem? (i := 27) rfl))) Via.refl eH1 F_o0_size d10_26 (pc' := 29) rfl (fun T2 X2 eH2 => ?_)
  refine own_icF X2 hx hby d10_29 (by decide) (pc' := 32) rfl ?_
  refine own_aloadN X2 hx hby rfl rfl d10_32 (pc' := 33) rfl ?_
  refine own_getF X2 hx hby hZ hown (host := "") (Or.inl (hw _ (List.mem_of_getElem? (i := 16) rfl))) Via.refl eH2 F_o0_key d10_33 (pc' := 36) rfl (fun T3 X3 eH3 => ?_)
  refine own_aloadN X3 hx hby rfl rfl d10_36 (pc' := 37) rfl ?_
  refine own_getF X3 hx hby hZ hown (host := "") (Or.inl (hw _ (List.mem_of_getElem? (i := 11) rfl))) Via.refl eH3 F_o0_heap d10_37 (pc' := 40) rfl (fun T4 X4 eH4 => ?_)
  refine own_iload X4 hx hby rfl d10_40 (pc' := 42) rfl ?_
  refine own_iconst X4 hx hby (v := (1 : Int32)) (by decide) d10_42 (pc' := 43) rfl ?_
  refine own_iadd X4 hx hby (v := (2 : Int32)) (by decide) d10_43 (pc' := 44) rfl ?_
  refine own_iaload X4 hx hby hZ eH4 V_heap_o0 (by decide) (v := (.int y2)) rfl d10_44 (pc' := 45) rfl ?_
  refine own_daload X4 hx hby hZ eH4 V_key_o0 (own_rg0 rg_y2) (v := (.double (K.getD y2.toNatClampNeg 0))) (own_lget (own_rgl rg_y2 hl_K)) d10_45 (pc' := 46) rfl ?_
  refine own_aloadN X4 hx hby rfl rfl d10_46 (pc' := 47) rfl ?_
  refine own_getF X4 hx hby hZ hown (host := "") (Or.inl (hw _ (List.mem_of_getElem? (i := 16) rfl))) Via.refl eH4 F_o0_key d10_47 (pc' := 50) rfl (fun T5 X5 eH5 => ?_)
  refine own_aloadN X5 hx hby rfl rfl d10_50 (pc' := 51) rfl ?_
  refine own_getF X5 hx hby hZ hown (host := "") (Or.inl (hw _ (List.mem_of_getElem? (i := 11) rfl))) Via.refl eH5 F_o0_heap d10_51 (pc' := 54) rfl (fun T6 X6 eH6 => ?_)
  refine own_iload X6 hx hby rfl d10_54 (pc' := 56) rfl ?_
  refine own_iaload X6 hx hby hZ eH6 V_heap_o0 (by decide) (v := (.int y1)) rfl d10_56 (pc' := 57) rfl ?_
  refine own_daload X6 hx hby hZ eH6 V_key_o0 (own_rg0 rg_y1) (v := (.double (K.getD y1.toNatClampNeg 0))) (own_lget (own_rgl rg_y1 hl_K)) d10_57 (pc' := 58) rfl ?_
  refine own_dcmp X6 hx hby rfl d10_58 (pc' := 59) rfl ?_
  by_cases hc7 : dlt (K.getD y2.toNatClampNeg 0) (K.getD y1.toNatClampNeg 0)
  · refine own_ifF X6 hx hby d10_59 (own_dg_ge_p hc7) (pc' := 62) rfl ?_
    refine own_iinc X6 hx hby rfl (L' := #[.val (.ref o0), .val (.int (0 : Int32)), .val (.int p2), .val (.int (0 : Int32)), .val (.int (2 : Int32))]) rfl d10_62 (pc' := 65) rfl ?_
    refine own_aloadN X6 hx hby rfl rfl d10_65 (pc' := 66) rfl ?_
    refine own_getF X6 hx hby hZ hown (host := "") (Or.inl (hw _ (List.mem_of_getElem? (i := 16) rfl))) Via.refl eH6 F_o0_key d10_66 (pc' := 69) rfl (fun T8 X8 eH8 => ?_)
    refine own_iloadN X8 hx hby rfl d10_69 (pc' := 70) rfl ?_
    refine own_daload X8 hx hby hZ eH8 V_key_o0 (own_rg0 rg_p2) (v := (.double (K.getD p2.toNatClampNeg 0))) (own_lget (own_rgl rg_p2 hl_K)) d10_70 (pc' := 71) rfl ?_
    refine own_aloadN X8 hx hby rfl rfl d10_71 (pc' := 72) rfl ?_
    refine own_getF X8 hx hby hZ hown (host := "") (Or.inl (hw _ (List.mem_of_getElem? (i := 16) rfl))) Via.refl eH8 F_o0_key d10_72 (pc' := 75) rfl (fun T9 X9 eH9 => ?_)
    refine own_aloadN X9 hx hby rfl rfl d10_75 (pc' := 76) rfl ?_
    refine own_getF X9 hx hby hZ hown (host := "") (Or.inl (hw _ (List.mem_of_getElem? (i := 11) rfl))) Via.refl eH9 F_o0_heap d10_76 (pc' := 79) rfl (fun T10 X10 eH10 => ?_)
    refine own_iload X10 hx hby rfl d10_79 (pc' := 81) rfl ?_
    refine own_iaload X10 hx hby hZ eH10 V_heap_o0 (by decide) (v := (.int y2)) rfl d10_81 (pc' := 82) rfl ?_
    refine own_daload X10 hx hby hZ eH10 V_key_o0 (own_rg0 rg_y2) (v := (.double (K.getD y2.toNatClampNeg 0))) (own_lget (own_rgl rg_y2 hl_K)) d10_82 (pc' := 83) rfl ?_
    refine own_dcmp X10 hx hby rfl d10_83 (pc' := 84) rfl ?_
    by_cases hc11 : dle (K.getD p2.toNatClampNeg 0) (K.getD y2.toNatClampNeg 0)
    · refine own_ifF X10 hx hby d10_84 (own_dg_gt_p hc11) (pc' := 87) rfl ?_
      refine own_goto X10 hx hby d10_87 (by decide) (pc' := 108) (by decide) ?_
      refine own_aloadN X10 hx hby rfl rfl d10_108 (pc' := 109) rfl ?_
      refine own_iloadN X10 hx hby rfl d10_109 (pc' := 110) rfl ?_
      refine own_iloadN X10 hx hby rfl d10_110 (pc' := 111) rfl ?_
      refine own_private X10 hx hby hZ (y := (⟨"com/example/cross_town/crosstown/solve/NodeHeap", "place", "(II)V"⟩ : MethodName)) (rest := []) hown (hw _ (List.mem_of_getElem? (i := 33) rfl)) (hw _ (List.mem_of_getElem? (i := 34) rfl)) (hw _ (List.mem_of_getElem? (i := 2) rfl)) (hw _ (List.mem_of_getElem? (i := 35) rfl)) (hw _ (List.mem_of_getElem? (i := 36) rfl)) (hw _ (List.mem_of_getElem? (i := 3) rfl)) (by decide) (rm60 l Z a0 hw [] o0 p2 heap_o0 position_o0 y0 y1 y2 y3 P h0 n0 Z0 E_o0 F_o0_heap F_o0_position V_heap_o0 V_position_o0 (by first | assumption | rfl | (simp only [List.length_set]; first | assumption | rfl)) rg_p2 g_heap_o0 ne_o0_heap_o0 ne_position_o0_heap_o0 g_position_o0 ne_o0_position_o0) eH10 (by rw [hml]; rfl) (a := o0) E_o0 (argsL := [(.int (0 : Int32)), (.int p2)]) rfl (lenOf pd_1 rfl) rfl d10_111 (pc' := 114) rfl (by decide) (W := 0) (Nat.le_of_eq rfl) (by decide) (by decide) (by decide) (fun T12 h12 Lc12 v12r X12 eH12 hQ12 => ?_)
      obtain ⟨rfl, Nq12, Kq12, gq12_0, gq12_1⟩ := hQ12
      have N12 := Fr.app N0 Nq12
      replace E_o0 := E_o0.keep Kq12
      replace F_o0_heap := F_o0_heap.keep Kq12 (ninS ne_o0_heap_o0 (ninS ne_o0_position_o0 nin0))
      replace F_o0_position := F_o0_position.keep Kq12 (ninS ne_o0_heap_o0 (ninS ne_o0_position_o0 nin0))
      replace F_o0_key := F_o0_key.keep Kq12 (ninS ne_o0_heap_o0 (ninS ne_o0_position_o0 nin0))
      replace F_o0_size := F_o0_size.keep Kq12 (ninS ne_o0_heap_o0 (ninS ne_o0_position_o0 nin0))
      replace V_key_o0 := V_key_o0.keep Kq12 (ninS ne_key_o0_heap_o0 (ninS ne_key_o0_position_o0 nin0))
      replace K0 := K0.trans Kq12 (allS (Or.inl (by simp)) (allS (Or.inl (by simp)) all0))
      have V_heap_o0 := gq12_0
      have hl13 : (P.set p2.toNatClampNeg (0 : Int32)).length = 4 := by (repeat' split) <;> (simp only [List.length_set]; first | assumption | rfl)
      have V_position_o0 := gq12_1
      replace Z0 := Nat.le_trans Z0 Kq12.1
      have o0 := (own_klt nnk y2 y1).mp hc7
      have o1 := (own_kle nnk p2 y2).mp hc11
      have HH : Hp3 p2 y1 y2 (P.set p2.toNatClampNeg (0 : Int32)) K := ⟨rg_p2, rg_y1, rg_y2, (by rw [own_pvs hl_P rg_p2 rg_p2, if_pos rfl]; first | done | decide), (by rw [own_pvs hl_P rg_p2 rg_y1, if_neg d_p2_y1]; exact pv_y1), (by rw [own_pvs hl_P rg_p2 rg_y2, if_neg d_p2_y2]; exact pv_y2), (by omega), (by omega)⟩
      have HA : ∀ z : Int32, (0 ≤ z.toInt ∧ z.toInt < 4) → pv P z = -1 → pv (P.set p2.toNatClampNeg (0 : Int32)) z = -1 := fun z rgz hz => (by rw [own_pvs hl_P rg_p2 rgz, if_neg (own_pne pv_p2 hz (by decide))]; exact hz)
      have HB : ∀ m : Int, m ≤ kv K p2 → m ≤ kv K y1 → m ≤ kv K y2 → m ≤ kv K p2 ∧ m ≤ kv K y1 ∧ m ≤ kv K y2 := fun m m0 m1 m2 => ⟨(by omega), (by omega), (by omega)⟩
      exact own_retV X12 hx hby Bd.notSynchronized Bd.returns d10_114 (by decide) (by decide) eH12 ⟨rfl, N12, K0, (by simp only [if_pos hc7, if_pos hc11]; exact V_position_o0), (by simp only [if_pos hc7, if_pos hc11]; exact V_heap_o0), (by simp only [if_pos hc7, if_pos hc11]; exact HH), (by simp only [if_pos hc7, if_pos hc11]; exact HA), (by simp only [if_pos hc7, if_pos hc11]; exact HB)⟩
    · refine own_ifT X10 hx hby d10_84 (own_dg_gt_n hc11) (by decide) (pc' := 90) (by decide) ?_
      refine own_aloadN X10 hx hby rfl rfl d10_90 (pc' := 91) rfl ?_
      refine own_iloadN X10 hx hby rfl d10_91 (pc' := 92) rfl ?_
      refine own_aloadN X10 hx hby rfl rfl d10_92 (pc' := 93) rfl ?_
      refine own_getF X10 hx hby hZ hown (host := "") (Or.inl (hw _ (List.mem_of_getElem? (i := 11) rfl))) Via.refl eH10 F_o0_heap d10_93 (pc' := 96) rfl (fun T14 X14 eH14 => ?_)
      refine own_iload X14 hx hby rfl d10_96 (pc' := 98) rfl ?_
      refine own_iaload X14 hx hby hZ eH14 V_heap_o0 (by decide) (v := (.int y2)) rfl d10_98 (pc' := 99) rfl ?_
      refine own_private X14 hx hby hZ (y := (⟨"com/example/cross_town/crosstown/solve/NodeHeap", "place", "(II)V"⟩ : MethodName)) (rest := []) hown (hw _ (List.mem_of_getElem? (i := 33) rfl)) (hw _ (List.mem_of_getElem? (i := 34) rfl)) (hw _ (List.mem_of_getElem? (i := 2) rfl)) (hw _ (List.mem_of_getElem? (i := 35) rfl)) (hw _ (List.mem_of_getElem? (i := 36) rfl)) (hw _ (List.mem_of_getElem? (i := 3) rfl)) (by decide) (rm60 l Z a0 hw [] o0 y2 heap_o0 position_o0 y0 y1 y2 y3 P h0 n0 Z0 E_o0 F_o0_heap F_o0_position V_heap_o0 V_position_o0 (by first | assumption | rfl | (simp only [List.length_set]; first | assumption | rfl)) rg_y2 g_heap_o0 ne_o0_heap_o0 ne_position_o0_heap_o0 g_position_o0 ne_o0_position_o0) eH14 (by rw [hml]; rfl) (a := o0) E_o0 (argsL := [(.int (0 : Int32)), (.int y2)]) rfl (lenOf pd_1 rfl) rfl d10_99 (pc' := 102) rfl (by decide) (W := 0) (Nat.le_of_eq rfl) (by decide) (by decide) (by decide) (fun T15 h15 Lc15 v15r X15 eH15 hQ15 => ?_)
      obtain ⟨rfl, Nq15, Kq15, gq15_0, gq15_1⟩ := hQ15
      have N15 := Fr.app N0 Nq15
      replace E_o0 := E_o0.keep Kq15
      replace F_o0_heap := F_o0_heap.keep Kq15 (ninS ne_o0_heap_o0 (ninS ne_o0_position_o0 nin0))
      replace F_o0_position := F_o0_position.keep Kq15 (ninS ne_o0_heap_o0 (ninS ne_o0_position_o0 nin0))
      replace F_o0_key := F_o0_key.keep Kq15 (ninS ne_o0_heap_o0 (ninS ne_o0_position_o0 nin0))
      replace F_o0_size := F_o0_size.keep Kq15 (ninS ne_o0_heap_o0 (ninS ne_o0_position_o0 nin0))
      replace V_key_o0 := V_key_o0.keep Kq15 (ninS ne_key_o0_heap_o0 (ninS ne_key_o0_position_o0 nin0))
      replace K0 := K0.trans Kq15 (allS (Or.inl (by simp)) (allS (Or.inl (by simp)) all0))
      have V_heap_o0 := gq15_0
      have hl16 : (P.set y2.toNatClampNeg (0 : Int32)).length = 4 := by (repeat' split) <;> (simp only [List.length_set]; first | assumption | rfl)
      have V_position_o0 := gq15_1
      replace Z0 := Nat.le_trans Z0 Kq15.1
      refine own_iload X15 hx hby rfl d10_102 (pc' := 104) rfl ?_
      refine own_istoreN X15 hx hby (L' := #[.val (.ref o0), .val (.int (0 : Int32)), .val (.int p2), .val (.int (2 : Int32)), .val (.int (2 : Int32))]) rfl d10_104 (pc' := 105) rfl ?_
      refine own_goto X15 hx hby d10_105 (by decide) (pc' := 2) (by decide) ?_
      refine own_iconst X15 hx hby (v := (2 : Int32)) (by decide) d10_2 (pc' := 3) rfl ?_
      refine own_iloadN X15 hx hby rfl d10_3 (pc' := 4) rfl ?_
      refine own_imul X15 hx hby (v := (4 : Int32)) (by decide) d10_4 (pc' := 5) rfl ?_
      refine own_iconst X15 hx hby (v := (1 : Int32)) (by decide) d10_5 (pc' := 6) rfl ?_
      refine own_iadd X15 hx hby (v := (5 : Int32)) (by decide) d10_6 (pc' := 7) rfl ?_
      refine own_aloadN X15 hx hby rfl rfl d10_7 (pc' := 8) rfl ?_
      refine own_getF X15 hx hby hZ hown (host := "") (Or.inl (hw _ (List.mem_of_getElem? (i := 27) rfl))) Via.refl eH15 F_o0_size d10_8 (pc' := 11) rfl (fun T17 X17 eH17 => ?_)
      refine own_icT X17 hx hby d10_11 (by decide) (by decide) (pc' := 108) (by decide) ?_
      refine own_aloadN X17 hx hby rfl rfl d10_108 (pc' := 109) rfl ?_
      refine own_iloadN X17 hx hby rfl d10_109 (pc' := 110) rfl ?_
      refine own_iloadN X17 hx hby rfl d10_110 (pc' := 111) rfl ?_
      refine own_private X17 hx hby hZ (y := (⟨"com/example/cross_town/crosstown/solve/NodeHeap", "place", "(II)V"⟩ : MethodName)) (rest := []) hown (hw _ (List.mem_of_getElem? (i := 33) rfl)) (hw _ (List.mem_of_getElem? (i := 34) rfl)) (hw _ (List.mem_of_getElem? (i := 2) rfl)) (hw _ (List.mem_of_getElem? (i := 35) rfl)) (hw _ (List.mem_of_getElem? (i := 36) rfl)) (hw _ (List.mem_of_getElem? (i := 3) rfl)) (by decide) (rm62 l Z a0 hw [] o0 p2 heap_o0 position_o0 y2 y1 y2 y3 (P.set y2.toNatClampNeg (0 : Int32)) h15 n0 Z0 E_o0 F_o0_heap F_o0_position V_heap_o0 V_position_o0 (by first | assumption | rfl | (simp only [List.length_set]; first | assumption | rfl)) rg_p2 g_heap_o0 ne_o0_heap_o0 ne_position_o0_heap_o0 g_position_o0 ne_o0_position_o0) eH17 (by rw [hml]; rfl) (a := o0) E_o0 (argsL := [(.int (2 : Int32)), (.int p2)]) rfl (lenOf pd_1 rfl) rfl d10_111 (pc' := 114) rfl (by decide) (W := 0) (Nat.le_of_eq rfl) (by decide) (by decide) (by decide) (fun T18 h18 Lc18 v18r X18 eH18 hQ18 => ?_)
      obtain ⟨rfl, Nq18, Kq18, gq18_0, gq18_1⟩ := hQ18
      have N18 := Fr.app N15 Nq18
      replace E_o0 := E_o0.keep Kq18
      replace F_o0_heap := F_o0_heap.keep Kq18 (ninS ne_o0_heap_o0 (ninS ne_o0_position_o0 nin0))
      replace F_o0_position := F_o0_position.keep Kq18 (ninS ne_o0_heap_o0 (ninS ne_o0_position_o0 nin0))
      replace F_o0_key := F_o0_key.keep Kq18 (ninS ne_o0_heap_o0 (ninS ne_o0_position_o0 nin0))
      replace F_o0_size := F_o0_size.keep Kq18 (ninS ne_o0_heap_o0 (ninS ne_o0_position_o0 nin0))
      replace V_key_o0 := V_key_o0.keep Kq18 (ninS ne_key_o0_heap_o0 (ninS ne_key_o0_position_o0 nin0))
      replace K0 := K0.trans Kq18 (allS (Or.inl (by simp)) (allS (Or.inl (by simp)) all0))
      have V_heap_o0 := gq18_0
      have hl19 : ((P.set y2.toNatClampNeg (0 : Int32)).set p2.toNatClampNeg (2 : Int32)).length = 4 := by (repeat' split) <;> (simp only [List.length_set]; first | assumption | rfl)
      have V_position_o0 := gq18_1
      replace Z0 := Nat.le_trans Z0 Kq18.1
      have o0 := (own_klt nnk y2 y1).mp hc7
      have o1 := mt (own_kle nnk p2 y2).mpr hc11
      have HH : Hp3 y2 y1 p2 ((P.set y2.toNatClampNeg (0 : Int32)).set p2.toNatClampNeg (2 : Int32)) K := ⟨rg_y2, rg_y1, rg_p2, (by rw [own_pvs (by simp only [List.length_set]; exact hl_P) rg_p2 rg_y2, if_neg d_p2_y2, own_pvs hl_P rg_y2 rg_y2, if_pos rfl]; first | done | decide), (by rw [own_pvs (by simp only [List.length_set]; exact hl_P) rg_p2 rg_y1, if_neg d_p2_y1, own_pvs hl_P rg_y2 rg_y1, if_neg d_y2_y1]; exact pv_y1), (by rw [own_pvs (by simp only [List.length_set]; exact hl_P) rg_p2 rg_p2, if_pos rfl]; first | done | decide), (by omega), (by omega)⟩
      have HA : ∀ z : Int32, (0 ≤ z.toInt ∧ z.toInt < 4) → pv P z = -1 → pv ((P.set y2.toNatClampNeg (0 : Int32)).set p2.toNatClampNeg (2 : Int32)) z = -1 := fun z rgz hz => (by rw [own_pvs (by simp only [List.length_set]; exact hl_P) rg_p2 rgz, if_neg (own_pne pv_p2 hz (by decide)), own_pvs hl_P rg_y2 rgz, if_neg (own_pne pv_y2 hz (by decide))]; exact hz)
      have HB : ∀ m : Int, m ≤ kv K p2 → m ≤ kv K y1 → m ≤ kv K y2 → m ≤ kv K y2 ∧ m ≤ kv K y1 ∧ m ≤ kv K p2 := fun m m0 m1 m2 => ⟨(by omega), (by omega), (by omega)⟩
      exact own_retV X18 hx hby Bd.notSynchronized Bd.returns d10_114 (by decide) (by decide) eH18 ⟨rfl, N18, K0, (by simp only [if_pos hc7, if_neg hc11]; exact V_position_o0), (by simp only [if_pos hc7, if_neg hc11]; exact V_heap_o0), (by simp only [if_pos hc7, if_neg hc11]; exact HH), (by simp only [if_pos hc7, if_neg hc11]; exact HA), (by simp only [if_pos hc7, if_neg hc11]; exact HB)⟩
  · refine own_ifT X6 hx hby d10_59 (own_dg_ge_n hc7) (by decide) (pc' := 65) (by decide) ?_
    refine own_aloadN X6 hx hby rfl rfl d10_65 (pc' := 66) rfl ?_
    refine own_getF X6 hx hby hZ hown (host := "") (Or.inl (hw _ (List.mem_of_getElem? (i := 16) rfl))) Via.refl eH6 F_o0_key d10_66 (pc' := 69) rfl (fun T20 X20 eH20 => ?_)
    refine own_iloadN X20 hx hby rfl d10_69 (pc' := 70) rfl ?_
    refine own_daload X20 hx hby hZ eH20 V_key_o0 (own_rg0 rg_p2) (v := (.double (K.getD p2.toNatClampNeg 0))) (own_lget (own_rgl rg_p2 hl_K)) d10_70 (pc' := 71) rfl ?_
    refine own_aloadN X20 hx hby rfl rfl d10_71 (pc' := 72) rfl ?_
    refine own_getF X20 hx hby hZ hown (host := "") (Or.inl (hw _ (List.mem_of_getElem? (i := 16) rfl))) Via.refl eH20 F_o0_key d10_72 (pc' := 75) rfl (fun T21 X21 eH21 => ?_)
    refine own_aloadN X21 hx hby rfl rfl d10_75 (pc' := 76) rfl ?_
    refine own_getF X21 hx hby hZ hown (host := "") (Or.inl (hw _ (List.mem_of_getElem? (i := 11) rfl))) Via.refl eH21 F_o0_heap d10_76 (pc' := 79) rfl (fun T22 X22 eH22 => ?_)
    refine own_iload X22 hx hby rfl d10_79 (pc' := 81) rfl ?_
    refine own_iaload X22 hx hby hZ eH22 V_heap_o0 (by decide) (v := (.int y1)) rfl d10_81 (pc' := 82) rfl ?_
    refine own_daload X22 hx hby hZ eH22 V_key_o0 (own_rg0 rg_y1) (v := (.double (K.getD y1.toNatClampNeg 0))) (own_lget (own_rgl rg_y1 hl_K)) d10_82 (pc' := 83) rfl ?_
    refine own_dcmp X22 hx hby rfl d10_83 (pc' := 84) rfl ?_
    by_cases hc23 : dle (K.getD p2.toNatClampNeg 0) (K.getD y1.toNatClampNeg 0)
    · refine own_ifF X22 hx hby d10_84 (own_dg_gt_p hc23) (pc' := 87) rfl ?_
      refine own_goto X22 hx hby d10_87 (by decide) (pc' := 108) (by decide) ?_
      refine own_aloadN X22 hx hby rfl rfl d10_108 (pc' := 109) rfl ?_
      refine own_iloadN X22 hx hby rfl d10_109 (pc' := 110) rfl ?_
      refine own_iloadN X22 hx hby rfl d10_110 (pc' := 111) rfl ?_
      refine own_private X22 hx hby hZ (y := (⟨"com/example/cross_town/crosstown/solve/NodeHeap", "place", "(II)V"⟩ : MethodName)) (rest := []) hown (hw _ (List.mem_of_getElem? (i := 33) rfl)) (hw _ (List.mem_of_getElem? (i := 34) rfl)) (hw _ (List.mem_of_getElem? (i := 2) rfl)) (hw _ (List.mem_of_getElem? (i := 35) rfl)) (hw _ (List.mem_of_getElem? (i := 36) rfl)) (hw _ (List.mem_of_getElem? (i := 3) rfl)) (by decide) (rm60 l Z a0 hw [] o0 p2 heap_o0 position_o0 y0 y1 y2 y3 P h0 n0 Z0 E_o0 F_o0_heap F_o0_position V_heap_o0 V_position_o0 (by first | assumption | rfl | (simp only [List.length_set]; first | assumption | rfl)) rg_p2 g_heap_o0 ne_o0_heap_o0 ne_position_o0_heap_o0 g_position_o0 ne_o0_position_o0) eH22 (by rw [hml]; rfl) (a := o0) E_o0 (argsL := [(.int (0 : Int32)), (.int p2)]) rfl (lenOf pd_1 rfl) rfl d10_111 (pc' := 114) rfl (by decide) (W := 0) (Nat.le_of_eq rfl) (by decide) (by decide) (by decide) (fun T24 h24 Lc24 v24r X24 eH24 hQ24 => ?_)
      obtain ⟨rfl, Nq24, Kq24, gq24_0, gq24_1⟩ := hQ24
      have N24 := Fr.app N0 Nq24
      replace E_o0 := E_o0.keep Kq24
      replace F_o0_heap := F_o0_heap.keep Kq24 (ninS ne_o0_heap_o0 (ninS ne_o0_position_o0 nin0))
      replace F_o0_position := F_o0_position.keep Kq24 (ninS ne_o0_heap_o0 (ninS ne_o0_position_o0 nin0))
      replace F_o0_key := F_o0_key.keep Kq24 (ninS ne_o0_heap_o0 (ninS ne_o0_position_o0 nin0))
      replace F_o0_size := F_o0_size.keep Kq24 (ninS ne_o0_heap_o0 (ninS ne_o0_position_o0 nin0))
      replace V_key_o0 := V_key_o0.keep Kq24 (ninS ne_key_o0_heap_o0 (ninS ne_key_o0_position_o0 nin0))
      replace K0 := K0.trans Kq24 (allS (Or.inl (by simp)) (allS (Or.inl (by simp)) all0))
      have V_heap_o0 := gq24_0
      have hl25 : (P.set p2.toNatClampNeg (0 : Int32)).length = 4 := by (repeat' split) <;> (simp only [List.length_set]; first | assumption | rfl)
      have V_position_o0 := gq24_1
      replace Z0 := Nat.le_trans Z0 Kq24.1
      have o0 := mt (own_klt nnk y2 y1).mpr hc7
      have o1 := (own_kle nnk p2 y1).mp hc23
      have HH : Hp3 p2 y1 y2 (P.set p2.toNatClampNeg (0 : Int32)) K := ⟨rg_p2, rg_y1, rg_y2, (by rw [own_pvs hl_P rg_p2 rg_p2, if_pos rfl]; first | done | decide), (by rw [own_pvs hl_P rg_p2 rg_y1, if_neg d_p2_y1]; exact pv_y1), (by rw [own_pvs hl_P rg_p2 rg_y2, if_neg d_p2_y2]; exact pv_y2), (by omega), (by omega)⟩
      have HA : ∀ z : Int32, (0 ≤ z.toInt ∧ z.toInt < 4) → pv P z = -1 → pv (P.set p2.toNatClampNeg (0 : Int32)) z = -1 := fun z rgz hz => (by rw [own_pvs hl_P rg_p2 rgz, if_neg (own_pne pv_p2 hz (by decide))]; exact hz)
      have HB : ∀ m : Int, m ≤ kv K p2 → m ≤ kv K y1 → m ≤ kv K y2 → m ≤ kv K p2 ∧ m ≤ kv K y1 ∧ m ≤ kv K y2 := fun m m0 m1 m2 => ⟨(by omega), (by omega), (by omega)⟩
      exact own_retV X24 hx hby Bd.notSynchronized Bd.returns d10_114 (by decide) (by decide) eH24 ⟨rfl, N24, K0, (by simp only [if_neg hc7, if_pos hc23]; exact V_position_o0), (by simp only [if_neg hc7, if_pos hc23]; exact V_heap_o0), (by simp only [if_neg hc7, if_pos hc23]; exact HH), (by simp only [if_neg hc7, if_pos hc23]; exact HA), (by simp only [if_neg hc7, if_pos hc23]; exact HB)⟩
    · refine own_ifT X22 hx hby d10_84 (own_dg_gt_n hc23) (by decide) (pc' := 90) (by decide) ?_
      refine own_aloadN X22 hx hby rfl rfl d10_90 (pc' := 91) rfl ?_
      refine own_iloadN X22 hx hby rfl d10_91 (pc' := 92) rfl ?_
      refine own_aloadN X22 hx hby rfl rfl d10_92 (pc' := 93) rfl ?_
      refine own_getF X22 hx hby hZ hown (host := "") (Or.inl (hw _ (List.mem_of_getElem? (i := 11) rfl))) Via.refl eH22 F_o0_heap d10_93 (pc' := 96) rfl (fun T26 X26 eH26 => ?_)
      refine own_iload X26 hx hby rfl d10_96 (pc' := 98) rfl ?_
      refine own_iaload X26 hx hby hZ eH26 V_heap_o0 (by decide) (v := (.int y1)) rfl d10_98 (pc' := 99) rfl ?_
      refine own_private X26 hx hby hZ (y := (⟨"com/example/cross_town/crosstown/solve/NodeHeap", "place", "(II)V"⟩ : MethodName)) (rest := []) hown (hw _ (List.mem_of_getElem? (i := 33) rfl)) (hw _ (List.mem_of_getElem? (i := 34) rfl)) (hw _ (List.mem_of_getElem? (i := 2) rfl)) (hw _ (List.mem_of_getElem? (i := 35) rfl)) (hw _ (List.mem_of_getElem? (i := 36) rfl)) (hw _ (List.mem_of_getElem? (i := 3) rfl)) (by decide) (rm60 l Z a0 hw [] o0 y1 heap_o0 position_o0 y0 y1 y2 y3 P h0 n0 Z0 E_o0 F_o0_heap F_o0_position V_heap_o0 V_position_o0 (by first | assumption | rfl | (simp only [List.length_set]; first | assumption | rfl)) rg_y1 g_heap_o0 ne_o0_heap_o0 ne_position_o0_heap_o0 g_position_o0 ne_o0_position_o0) eH26 (by rw [hml]; rfl) (a := o0) E_o0 (argsL := [(.int (0 : Int32)), (.int y1)]) rfl (lenOf pd_1 rfl) rfl d10_99 (pc' := 102) rfl (by decide) (W := 0) (Nat.le_of_eq rfl) (by decide) (by decide) (by decide) (fun T27 h27 Lc27 v27r X27 eH27 hQ27 => ?_)
      obtain ⟨rfl, Nq27, Kq27, gq27_0, gq27_1⟩ := hQ27
      have N27 := Fr.app N0 Nq27
      replace E_o0 := E_o0.keep Kq27
      replace F_o0_heap := F_o0_heap.keep Kq27 (ninS ne_o0_heap_o0 (ninS ne_o0_position_o0 nin0))
      replace F_o0_position := F_o0_position.keep Kq27 (ninS ne_o0_heap_o0 (ninS ne_o0_position_o0 nin0))
      replace F_o0_key := F_o0_key.keep Kq27 (ninS ne_o0_heap_o0 (ninS ne_o0_position_o0 nin0))
      replace F_o0_size := F_o0_size.keep Kq27 (ninS ne_o0_heap_o0 (ninS ne_o0_position_o0 nin0))
      replace V_key_o0 := V_key_o0.keep Kq27 (ninS ne_key_o0_heap_o0 (ninS ne_key_o0_position_o0 nin0))
      replace K0 := K0.trans Kq27 (allS (Or.inl (by simp)) (allS (Or.inl (by simp)) all0))
      have V_heap_o0 := gq27_0
      have hl28 : (P.set y1.toNatClampNeg (0 : Int32)).length = 4 := by (repeat' split) <;> (simp only [List.length_set]; first | assumption | rfl)
      have V_position_o0 := gq27_1
      replace Z0 := Nat.le_trans Z0 Kq27.1
      refine own_iload X27 hx hby rfl d10_102 (pc' := 104) rfl ?_
      refine own_istoreN X27 hx hby (L' := #[.val (.ref o0), .val (.int (0 : Int32)), .val (.int p2), .val (.int (1 : Int32)), .val (.int (1 : Int32))]) rfl d10_104 (pc' := 105) rfl ?_
      refine own_goto X27 hx hby d10_105 (by decide) (pc' := 2) (by decide) ?_
      refine own_iconst X27 hx hby (v := (2 : Int32)) (by decide) d10_2 (pc' := 3) rfl ?_
      refine own_iloadN X27 hx hby rfl d10_3 (pc' := 4) rfl ?_
      refine own_imul X27 hx hby (v := (2 : Int32)) (by decide) d10_4 (pc' := 5) rfl ?_
      refine own_iconst X27 hx hby (v := (1 : Int32)) (by decide) d10_5 (pc' := 6) rfl ?_
      refine own_iadd X27 hx hby (v := (3 : Int32)) (by decide) d10_6 (pc' := 7) rfl ?_
      refine own_aloadN X27 hx hby rfl rfl d10_7 (pc' := 8) rfl ?_
      refine own_getF X27 hx hby hZ hown (host := "") (Or.inl (hw _ (List.mem_of_getElem? (i := 27) rfl))) Via.refl eH27 F_o0_size d10_8 (pc' := 11) rfl (fun T29 X29 eH29 => ?_)
      refine own_icT X29 hx hby d10_11 (by decide) (by decide) (pc' := 108) (by decide) ?_
      refine own_aloadN X29 hx hby rfl rfl d10_108 (pc' := 109) rfl ?_
      refine own_iloadN X29 hx hby rfl d10_109 (pc' := 110) rfl ?_
      refine own_iloadN X29 hx hby rfl d10_110 (pc' := 111) rfl ?_
      refine own_private X29 hx hby hZ (y := (⟨"com/example/cross_town/crosstown/solve/NodeHeap", "place", "(II)V"⟩ : MethodName)) (rest := []) hown (hw _ (List.mem_of_getElem? (i := 33) rfl)) (hw _ (List.mem_of_getElem? (i := 34) rfl)) (hw _ (List.mem_of_getElem? (i := 2) rfl)) (hw _ (List.mem_of_getElem? (i := 35) rfl)) (hw _ (List.mem_of_getElem? (i := 36) rfl)) (hw _ (List.mem_of_getElem? (i := 3) rfl)) (by decide) (rm61 l Z a0 hw [] o0 p2 heap_o0 position_o0 y1 y1 y2 y3 (P.set y1.toNatClampNeg (0 : Int32)) h27 n0 Z0 E_o0 F_o0_heap F_o0_position V_heap_o0 V_position_o0 (by first | assumption | rfl | (simp only [List.length_set]; first | assumption | rfl)) rg_p2 g_heap_o0 ne_o0_heap_o0 ne_position_o0_heap_o0 g_position_o0 ne_o0_position_o0) eH29 (by rw [hml]; rfl) (a := o0) E_o0 (argsL := [(.int (1 : Int32)), (.int p2)]) rfl (lenOf pd_1 rfl) rfl d10_111 (pc' := 114) rfl (by decide) (W := 0) (Nat.le_of_eq rfl) (by decide) (by decide) (by decide) (fun T30 h30 Lc30 v30r X30 eH30 hQ30 => ?_)
      obtain ⟨rfl, Nq30, Kq30, gq30_0, gq30_1⟩ := hQ30
      have N30 := Fr.app N27 Nq30
      replace E_o0 := E_o0.keep Kq30
      replace F_o0_heap := F_o0_heap.keep Kq30 (ninS ne_o0_heap_o0 (ninS ne_o0_position_o0 nin0))
      replace F_o0_position := F_o0_position.keep Kq30 (ninS ne_o0_heap_o0 (ninS ne_o0_position_o0 nin0))
      replace F_o0_key := F_o0_key.keep Kq30 (ninS ne_o0_heap_o0 (ninS ne_o0_position_o0 nin0))
      replace F_o0_size := F_o0_size.keep Kq30 (ninS ne_o0_heap_o0 (ninS ne_o0_position_o0 nin0))
      replace V_key_o0 := V_key_o0.keep Kq30 (ninS ne_key_o0_heap_o0 (ninS ne_key_o0_position_o0 nin0))
      replace K0 := K0.trans Kq30 (allS (Or.inl (by simp)) (allS (Or.inl (by simp)) all0))
      have V_heap_o0 := gq30_0
      have hl31 : ((P.set y1.toNatClampNeg (0 : Int32)).set p2.toNatClampNeg (1 : Int32)).length = 4 := by (repeat' split) <;> (simp only [List.length_set]; first | assumption | rfl)
      have V_position_o0 := gq30_1
      replace Z0 := Nat.le_trans Z0 Kq30.1
      have o0 := mt (own_klt nnk y2 y1).mpr hc7
      have o1 := mt (own_kle nnk p2 y1).mpr hc23
      have HH : Hp3 y1 p2 y2 ((P.set y1.toNatClampNeg (0 : Int32)).set p2.toNatClampNeg (1 : Int32)) K := ⟨rg_y1, rg_p2, rg_y2, (by rw [own_pvs (by simp only [List.length_set]; exact hl_P) rg_p2 rg_y1, if_neg d_p2_y1, own_pvs hl_P rg_y1 rg_y1, if_pos rfl]; first | done | decide), (by rw [own_pvs (by simp only [List.length_set]; exact hl_P) rg_p2 rg_p2, if_pos rfl]; first | done | decide), (by rw [own_pvs (by simp only [List.length_set]; exact hl_P) rg_p2 rg_y2, if_neg d_p2_y2, own_pvs hl_P rg_y1 rg_y2, if_neg d_y1_y2]; exact pv_y2), (by omega), (by omega)⟩
      have HA : ∀ z : Int32, (0 ≤ z.toInt ∧ z.toInt < 4) → pv P z = -1 → pv ((P.set y1.toNatClampNeg (0 : Int32)).set p2.toNatClampNeg (1 : Int32)) z = -1 := fun z rgz hz => (by rw [own_pvs (by simp only [List.length_set]; exact hl_P) rg_p2 rgz, if_neg (own_pne pv_p2 hz (by decide)), own_pvs hl_P rg_y1 rgz, if_neg (own_pne pv_y1 hz (by decide))]; exact hz)
      have HB : ∀ m : Int, m ≤ kv K p2 → m ≤ kv K y1 → m ≤ kv K y2 → m ≤ kv K y1 ∧ m ≤ kv K p2 ∧ m ≤ kv K y2 := fun m m0 m1 m2 => ⟨(by omega), (by omega), (by omega)⟩
      exact own_retV X30 hx hby Bd.notSynchronized Bd.returns d10_114 (by decide) (by decide) eH30 ⟨rfl, N30, K0, (by simp only [if_neg hc7, if_neg hc23]; exact V_position_o0), (by simp only [if_neg hc7, if_neg hc23]; exact V_heap_o0), (by simp only [if_neg hc7, if_neg hc23]; exact HH), (by simp only [if_neg hc7, if_neg hc23]; exact HA), (by simp only [if_neg hc7, if_neg hc23]; exact HB)⟩
theorem ef4n0 (m : MethodId) (x0 : Addr) (x1 : Int32) (x2 : UInt64) : entryFrame m #[(.ref x0), (.int x1), (.double x2)] 5 = mkF m 0 #[.val (.ref x0), .val (.int x1), .val (.double x2), .second, .unset] [] := by first | (simp [entryFrame, mkF, argsToLocals, Value.category]; done) | rfl
def Q4n0 (Z : State) (o0 : Addr) (p1 : Int32) (f2 : UInt64) (heap_o0 : Addr) (position_o0 : Addr) (key_o0 : Addr) (y0 : Int32) (y1 : Int32) (y2 : Int32) (y3 : Int32) (P : List Int32) (K : List UInt64) (h0 : Heap) (n0 : Nat) (v : Option Value) (h : Heap) (L : List Loc) : Prop := v = none ∧ Fr n0 L ∧ Keep h0 h [o0, key_o0, heap_o0, position_o0] ∧ Exa Z h o0 "com/example/cross_town/crosstown/solve/NodeHeap" ∧ Fld Z h o0 "com/example/cross_town/crosstown/solve/NodeHeap" "heap" "[I" (.ref heap_o0) ∧ Fld Z h o0 "com/example/cross_town/crosstown/solve/NodeHeap" "position" "[I" (.ref position_o0) ∧ Fld Z h o0 "com/example/cross_town/crosstown/solve/NodeHeap" "key" "[D" (.ref key_o0) ∧ Fld Z h o0 "com/example/cross_town/crosstown/solve/NodeHeap" "size" "I" (.int (1 : Int32)) ∧ Ary tr Z h key_o0 .double ((K.set p1.toNatClampNeg f2).map Value.double) ∧ Ary tr Z h heap_o0 .int [(.int p1), (.int y1), (.int y2), (.int y3)] ∧ Ary tr Z h position_o0 .int ((P.set p1.toNatClampNeg (0 : Int32)).map Value.int) ∧ (Hp1 p1 (P.set p1.toNatClampNeg (0 : Int32)) (K.set p1.toNatClampNeg f2)) ∧ (NNk (K.set p1.toNatClampNeg f2)) ∧ (∀ z : Int32, (0 ≤ z.toInt ∧ z.toInt < 4) → ¬ p1.toInt = z.toInt → pv P z = -1 → pv (P.set p1.toNatClampNeg (0 : Int32)) z = -1)
set_option maxRecDepth 65536 in
set_option maxHeartbeats 40000000 in
theorem rm4n0 (l : Launch) (Z : State) (a0 : Array Value) (hw : ∀ d ∈ tables_1, d.before a0 Z = true) (ws : List Jvm.Cond) (o0 : Addr) (p1 : Int32) (f2 : UInt64) (heap_o0 : Addr) (position_o0 : Addr) (key_o0 : Addr) (y0 : Int32) (y1 : Int32) (y2 : Int32) (y3 : Int32) (P : List Int32) (K : List UInt64) (h0 : Heap) (n0 : Nat) (Z0 : n0 ≤ h0.size) (E_o0 : Exa Z h0 o0 "com/example/cross_town/crosstown/solve/NodeHeap") (F_o0_heap : Fld Z h0 o0 "com/example/cross_town/crosstown/solve/NodeHeap" "heap" "[I" (.ref heap_o0)) (F_o0_position : Fld Z h0 o0 "com/example/cross_town/crosstown/solve/NodeHeap" "position" "[I" (.ref position_o0)) (F_o0_key : Fld Z h0 o0 "com/example/cross_town/crosstown/solve/NodeHeap" "key" "[D" (.ref key_o0)) (F_o0_size : Fld Z h0 o0 "com/example/cross_town/crosstown/solve/NodeHeap" "size" "I" (.int (0 : Int32))) (V_heap_o0 : Ary tr Z h0 heap_o0 .int [(.int y0), (.int y1), (.int y2), (.int y3)]) (V_position_o0 : Ary tr Z h0 position_o0 .int (P.map Value.int)) (hl_P : (P.length = 4)) (V_key_o0 : Ary tr Z h0 key_o0 .double (K.map Value.double)) (hl_K : (K.length = 4)) (nnk : (NNk K)) (nnf : (FP.Core.val64 f2 ≠ .nan)) (rg_p1 : (0 ≤ p1.toInt ∧ p1.toInt < 4)) (pv_p1 : (pv P p1 = -1)) (g_o0 : n0 ≤ o0) (ne_heap_o0_o0 : heap_o0 ≠ o0) (ne_position_o0_o0 : position_o0 ≠ o0) (ne_key_o0_o0 : key_o0 ≠ o0) (g_key_o0 : n0 ≤ key_o0) (ne_heap_o0_key_o0 : heap_o0 ≠ key_o0) (ne_position_o0_key_o0 : position_o0 ≠ key_o0) (g_heap_o0 : n0 ≤ heap_o0) (ne_position_o0_heap_o0 : position_o0 ≠ heap_o0) (g_position_o0 : n0 ≤ position_o0) :
    MetFree l (⟨"com/example/cross_town/crosstown/solve/NodeHeap", "insertOrLower", "(ID)V"⟩ : MethodName) (head1 (Jvm.Cond.code (⟨"com/example/cross_town/crosstown/solve/NodeHeap", "insertOrLower", "(ID)V"⟩ : MethodName) prog_33_method_3_code 5 none :: ws) ({ frames := 2, cells := 0, slots := 0, locals := 30 } : Room)) (fun a U => a = #[(.ref o0), (.int p1), (.double f2)] ∧ Z.Warmed39 U.vm ∧ U.heap = h0) (fun _ _ _ _ _ => True) (fun _ U o U' => ∃ v L, o = .returned v ∧ Q4n0 Z o0 p1 f2 heap_o0 position_o0 key_o0 y0 y1 y2 y3 P K h0 n0 v U'.heap L ∧ FrameEnd U o U' L ({ frames := 2, cells := 0, slots := 0, locals := 30 } : Room).cells ({ frames := 2, cells := 0, slots := 0, locals := 30 } : Room).slots) := by
  refine MetFree.of_bodySF (plainFor_of_name pn_com_example_cross_town_crosstown_solve_NodeHeap) hisR ?_
  intro p e s m args below meth c s₁ Bd hml0 hP hK
  obtain ⟨rfl, hZ, hh⟩ := hP
  have hx := Bd.exec
  have hby := Bd.bytes
  have hml : c.maxLocals = 5 := hml0
  have hown : s.vm.findClass "com/example/cross_town/crosstown/solve/NodeHeap" = some m.cls := findClass_of_methodNamed Bd.named
  have hnm := (name_of_methodNamed Bd.named Bd.method).1
  have X0 : Stand p l e ({ frames := 2, cells := 0, slots := 0, locals := 30 } : Room) s m #[(.ref o0), (.int p1), (.double f2)] below meth c s₁ [] 0 0 := Stand.of_body Bd
  have eH0 : s₁.heap = h0 := by rw [← hh, Bd.state]; rfl
  have N0 := Fr.nil n0
  have K0 := Keep.refl h0 [o0, key_o0, heap_o0, position_o0]
  show Gt p.tables e below (fun o U' => ∃ v L, o = .returned v ∧ Q4n0 Z o0 p1 f2 heap_o0 position_o0 key_o0 y0 y1 y2 y3 P K h0 n0 v U'.heap L ∧ FrameEnd s o U' L ({ frames := 2, cells := 0, slots := 0, locals := 30 } : Room).cells ({ frames := 2, cells := 0, slots := 0, locals := 30 } : Room).slots) _
  refine own_cast (ef4n0 m o0 p1 f2) ?_
  refine own_aloadN X0 hx hby rfl rfl d4_0 (pc' := 1) rfl ?_
  refine own_getF X0 hx hby hZ hown (host := "") (Or.inl (hw _ (List.mem_of_getElem? (i := 13) rfl))) Via.refl eH0 F_o0_position d4_1 (pc' := 4) rfl (fun T1 X1 eH1 => ?_)
  refine own_iloadN X1 hx hby rfl d4_4 (pc' := 5) rfl ?_
  refine own_iaload X1 hx hby hZ eH1 V_position_o0 (own_rg0 rg_p1) (v := (.int (P.getD p1.toNatClampNeg 0))) (own_lget (own_rgl rg_p1 hl_P)) d4_5 (pc' := 6) rfl ?_
  refine own_istore X1 hx hby (L' := #[.val (.ref o0), .val (.int p1), .val (.double f2), .second, .val (.int (P.getD p1.toNatClampNeg 0))]) rfl d4_6 (pc' := 8) rfl ?_
  refine own_iload X1 hx hby rfl d4_8 (pc' := 10) rfl ?_
  refine own_iconst X1 hx hby (v := (-1 : Int32)) (by decide) d4_10 (pc' := 11) rfl ?_
  have hk2 : (P.getD p1.toNatClampNeg 0) = (-1 : Int32) := own_pm pv_p1 (by decide)
  refine own_icF X1 hx hby d4_11 (own_ic_ne_p hk2) (pc' := 14) rfl ?_
  refine own_aloadN X1 hx hby rfl rfl d4_14 (pc' := 15) rfl ?_
  refine own_getF X1 hx hby hZ hown (host := "") (Or.inl (hw _ (List.mem_of_getElem? (i := 27) rfl))) Via.refl eH1 F_o0_size d4_15 (pc' := 18) rfl (fun T3 X3 eH3 => ?_)
  refine own_istore X3 hx hby (L' := #[.val (.ref o0), .val (.int p1), .val (.double f2), .second, .val (.int (0 : Int32))]) rfl d4_18 (pc' := 20) rfl ?_
  refine own_aloadN X3 hx hby rfl rfl d4_20 (pc' := 21) rfl ?_
  refine own_dup X3 hx hby rfl d4_21 (pc' := 22) rfl ?_
  refine own_getF X3 hx hby hZ hown (host := "") (Or.inl (hw _ (List.mem_of_getElem? (i := 27) rfl))) Via.refl eH3 F_o0_size d4_22 (pc' := 25) rfl (fun T4 X4 eH4 => ?_)
  refine own_iconst X4 hx hby (v := (1 : Int32)) (by decide) d4_25 (pc' := 26) rfl ?_
  refine own_iadd X4 hx hby (v := (1 : Int32)) (by decide) d4_26 (pc' := 27) rfl ?_
  refine own_putF X4 hx hby hZ hown (host := "") (Or.inl (hw _ (List.mem_of_getElem? (i := 27) rfl))) Via.refl eH4 F_o0_size E_o0 (Or.inl (hw _ (List.mem_of_getElem? (i := 28) rfl))) (hw _ (List.mem_of_getElem? (i := 2) rfl)) (ty := .int) (by decide) rfl rfl d4_27 (pc' := 30) rfl (fun T5 h5 X5 eH5 W5 => ?_)
  replace E_o0 := E_o0.wr W5
  replace F_o0_heap := F_o0_heap.other W5 (Or.inr (slot_ne (Or.inr (hw _ (List.mem_of_getElem? (i := 12) rfl))) (Or.inl (hw _ (List.mem_of_getElem? (i := 28) rfl))) (by decide) (t := (.array .int)) (t' := .int) (by decide) (by decide)))
  replace F_o0_position := F_o0_position.other W5 (Or.inr (slot_ne (Or.inr (hw _ (List.mem_of_getElem? (i := 14) rfl))) (Or.inl (hw _ (List.mem_of_getElem? (i := 28) rfl))) (by decide) (t := (.array .int)) (t' := .int) (by decide) (by decide)))
  replace F_o0_key := F_o0_key.other W5 (Or.inr (slot_ne (Or.inr (hw _ (List.mem_of_getElem? (i := 17) rfl))) (Or.inl (hw _ (List.mem_of_getElem? (i := 28) rfl))) (by decide) (t := (.array .double)) (t' := .int) (by decide) (by decide)))
  replace F_o0_size := F_o0_size.same W5
  replace V_heap_o0 := V_heap_o0.other W5 ne_heap_o0_o0
  replace V_position_o0 := V_position_o0.other W5 ne_position_o0_o0
  replace V_key_o0 := V_key_o0.other W5 ne_key_o0_o0
  have N5 := Fr.snoc X5 N0 g_o0
  replace K0 := K0.wr W5 (Or.inl (by simp))
  replace Z0 := Nat.le_trans Z0 (Nat.le_of_eq W5.size.symm)
  refine own_aloadN X5 hx hby rfl rfl d4_30 (pc' := 31) rfl ?_
  refine own_getF X5 hx hby hZ hown (host := "") (Or.inl (hw _ (List.mem_of_getElem? (i := 16) rfl))) Via.refl eH5 F_o0_key d4_31 (pc' := 34) rfl (fun T6 X6 eH6 => ?_)
  refine own_iloadN X6 hx hby rfl d4_34 (pc' := 35) rfl ?_
  refine own_dloadN X6 hx hby rfl d4_35 (pc' := 36) rfl ?_
  refine own_dastore X6 hx hby hZ eH6 V_key_o0 (own_rg0 rg_p1) (n := p1.toNatClampNeg) rfl (by rw [List.length_map]; exact own_rgl rg_p1 hl_K) d4_36 (pc' := 37) rfl (fun T7 h7 X7 eH7 W7 => ?_)
  replace E_o0 := E_o0.wr W7
  replace F_o0_heap := F_o0_heap.other W7 (Or.inl (Ne.symm ne_key_o0_o0))
  replace F_o0_position := F_o0_position.other W7 (Or.inl (Ne.symm ne_key_o0_o0))
  replace F_o0_key := F_o0_key.other W7 (Or.inl (Ne.symm ne_key_o0_o0))
  replace F_o0_size := F_o0_size.other W7 (Or.inl (Ne.symm ne_key_o0_o0))
  replace V_heap_o0 := V_heap_o0.other W7 ne_heap_o0_key_o0
  replace V_position_o0 := V_position_o0.other W7 ne_position_o0_key_o0
  have N7 := Fr.snoc X7 N5 g_key_o0
  replace K0 := K0.wr W7 (Or.inl (by simp))
  replace Z0 := Nat.le_trans Z0 (Nat.le_of_eq W7.size.symm)
  have hl8 : (K.set p1.toNatClampNeg f2).length = 4 := by rw [List.length_set]; exact hl_K
  replace V_key_o0 : Ary tr Z h7 key_o0 .double ((K.set p1.toNatClampNeg f2).map Value.double) := by rw [List.map_set]; exact V_key_o0.set W7
  refine own_aloadN X7 hx hby rfl rfl d4_37 (pc' := 38) rfl ?_
  refine own_iload X7 hx hby rfl d4_38 (pc' := 40) rfl ?_
  refine own_iloadN X7 hx hby rfl d4_40 (pc' := 41) rfl ?_
  refine own_private X7 hx hby hZ (y := (⟨"com/example/cross_town/crosstown/solve/NodeHeap", "siftUp", "(II)V"⟩ : MethodName)) (rest := []) hown (hw _ (List.mem_of_getElem? (i := 29) rfl)) (hw _ (List.mem_of_getElem? (i := 30) rfl)) (hw _ (List.mem_of_getElem? (i := 2) rfl)) (hw _ (List.mem_of_getElem? (i := 31) rfl)) (hw _ (List.mem_of_getElem? (i := 32) rfl)) (hw _ (List.mem_of_getElem? (i := 3) rfl)) (by decide) (rm5n0 l Z a0 hw [] o0 p1 heap_o0 position_o0 key_o0 y0 y1 y2 y3 P (K.set p1.toNatClampNeg f2) h7 n0 Z0 E_o0 F_o0_heap F_o0_position F_o0_key V_heap_o0 V_position_o0 (by first | assumption | rfl | (simp only [List.length_set]; first | assumption | rfl)) V_key_o0 (by first | assumption | rfl | (simp only [List.length_set]; first | assumption | rfl)) rg_p1 (own_nnk nnk nnf (own_rgl rg_p1 hl_K)) pv_p1 g_heap_o0 (Ne.symm ne_heap_o0_o0) ne_position_o0_heap_o0 g_position_o0 (Ne.symm ne_position_o0_o0) (Ne.symm ne_position_o0_key_o0) (Ne.symm ne_heap_o0_key_o0)) eH7 (by rw [hml]; rfl) (a := o0) E_o0 (argsL := [(.int (0 : Int32)), (.int p1)]) rfl (lenOf pd_1 rfl) rfl d4_41 (pc' := 44) rfl (by decide) (W := 0) (Nat.le_of_eq rfl) (by decide) (by decide) (by decide) (fun T9 h9 Lc9 v9r X9 eH9 hQ9 => ?_)
  obtain ⟨rfl, Nq9, Kq9, gq9_0, gq9_1, gq9_2, gq9_3⟩ := hQ9
  have N9 := Fr.app N7 Nq9
  replace E_o0 := E_o0.keep Kq9
  replace F_o0_heap := F_o0_heap.keep Kq9 (ninS (Ne.symm ne_position_o0_o0) (ninS (Ne.symm ne_heap_o0_o0) nin0))
  replace F_o0_position := F_o0_position.keep Kq9 (ninS (Ne.symm ne_position_o0_o0) (ninS (Ne.symm ne_heap_o0_o0) nin0))
  replace F_o0_key := F_o0_key.keep Kq9 (ninS (Ne.symm ne_position_o0_o0) (ninS (Ne.symm ne_heap_o0_o0) nin0))
  replace F_o0_size := F_o0_size.keep Kq9 (ninS (Ne.symm ne_position_o0_o0) (ninS (Ne.symm ne_heap_o0_o0) nin0))
  replace V_key_o0 := V_key_o0.keep Kq9 (ninS (Ne.symm ne_position_o0_key_o0) (ninS (Ne.symm ne_heap_o0_key_o0) nin0))
  replace K0 := K0.trans Kq9 (allS (Or.inl (by simp)) (allS (Or.inl (by simp)) all0))
  have hl10 : (P.set p1.toNatClampNeg (0 : Int32)).length = 4 := by (repeat' split) <;> (simp only [List.length_set]; first | assumption | rfl)
  have V_position_o0 := gq9_0
  have V_heap_o0 := gq9_1
  have hp_9 : Hp1 p1 (P.set p1.toNatClampNeg (0 : Int32)) (K.set p1.toNatClampNeg f2) := gq9_2
  have ab_9 : ∀ z : Int32, (0 ≤ z.toInt ∧ z.toInt < 4) → ¬ p1.toInt = z.toInt → pv P z = -1 → pv (P.set p1.toNatClampNeg (0 : Int32)) z = -1 := gq9_3
  replace Z0 := Nat.le_trans Z0 Kq9.1
  exact own_retV X9 hx hby Bd.notSynchronized Bd.returns d4_44 (by decide) (by decide) eH9 ⟨rfl, N9, K0, E_o0, F_o0_heap, F_o0_position, F_o0_key, F_o0_size, V_key_o0, V_heap_o0, V_position_o0, hp_9, (own_nnk nnk nnf (own_rgl rg_p1 hl_K)), ab_9⟩
theorem ef4n1 (m : MethodId) (x0 : Addr) (x1 : Int32) (x2 : UInt64) : entryFrame m #[(.ref x0), (.int x1), (.double x2)] 5 = mkF m 0 #[.val (.ref x0), .val (.int x1), .val (.double x2), .second, .unset] [] := by first | (simp [entryFrame, mkF, argsToLocals, Value.category]; done) | rfl
def Q4n1 (Z : State) (o0 : Addr) (p1 : Int32) (f2 : UInt64) (heap_o0 : Addr) (position_o0 : Addr) (key_o0 : Addr) (y0 : Int32) (y1 : Int32) (y2 : Int32) (y3 : Int32) (P : List Int32) (K : List UInt64) (h0 : Heap) (n0 : Nat) (v : Option Value) (h : Heap) (L : List Loc) : Prop := v = none ∧ Fr n0 L ∧ Keep h0 h [o0, key_o0, heap_o0, position_o0] ∧ Exa Z h o0 "com/example/cross_town/crosstown/solve/NodeHeap" ∧ Fld Z h o0 "com/example/cross_town/crosstown/solve/NodeHeap" "heap" "[I" (.ref heap_o0) ∧ Fld Z h o0 "com/example/cross_town/crosstown/solve/NodeHeap" "position" "[I" (.ref position_o0) ∧ Fld Z h o0 "com/example/cross_town/crosstown/solve/NodeHeap" "key" "[D" (.ref key_o0) ∧ Fld Z h o0 "com/example/cross_town/crosstown/solve/NodeHeap" "size" "I" (.int (2 : Int32)) ∧ Ary tr Z h key_o0 .double ((K.set p1.toNatClampNeg f2).map Value.double) ∧ Ary tr Z h heap_o0 .int [(.int (if dle ((K.set p1.toNatClampNeg f2).getD y0.toNatClampNeg 0) ((K.set p1.toNatClampNeg f2).getD p1.toNatClampNeg 0) then y0 else p1)), (.int (if dle ((K.set p1.toNatClampNeg f2).getD y0.toNatClampNeg 0) ((K.set p1.toNatClampNeg f2).getD p1.toNatClampNeg 0) then p1 else y0)), (.int y2), (.int y3)] ∧ Ary tr Z h position_o0 .int ((if dle ((K.set p1.toNatClampNeg f2).getD y0.toNatClampNeg 0) ((K.set p1.toNatClampNeg f2).getD p1.toNatClampNeg 0) then (P.set p1.toNatClampNeg (1 : Int32)) else ((P.set y0.toNatClampNeg (1 : Int32)).set p1.toNatClampNeg (0 : Int32))).map Value.int) ∧ (Hp2 (if dle ((K.set p1.toNatClampNeg f2).getD y0.toNatClampNeg 0) ((K.set p1.toNatClampNeg f2).getD p1.toNatClampNeg 0) then y0 else p1) (if dle ((K.set p1.toNatClampNeg f2).getD y0.toNatClampNeg 0) ((K.set p1.toNatClampNeg f2).getD p1.toNatClampNeg 0) then p1 else y0) (if dle ((K.set p1.toNatClampNeg f2).getD y0.toNatClampNeg 0) ((K.set p1.toNatClampNeg f2).getD p1.toNatClampNeg 0) then (P.set p1.toNatClampNeg (1 : Int32)) else ((P.set y0.toNatClampNeg (1 : Int32)).set p1.toNatClampNeg (0 : Int32))) (K.set p1.toNatClampNeg f2)) ∧ (NNk (K.set p1.toNatClampNeg f2)) ∧ (∀ z : Int32, (0 ≤ z.toInt ∧ z.toInt < 4) → ¬ p1.toInt = z.toInt → pv P z = -1 → pv (if dle ((K.set p1.toNatClampNeg f2).getD y0.toNatClampNeg 0) ((K.set p1.toNatClampNeg f2).getD p1.toNatClampNeg 0) then (P.set p1.toNatClampNeg (1 : Int32)) else ((P.set y0.toNatClampNeg (1 : Int32)).set p1.toNatClampNeg (0 : Int32))) z = -1)
set_option maxRecDepth 65536 in
set_option maxHeartbeats 40000000 in
theorem rm4n1 (l : Launch) (Z : State) (a0 : Array Value) (hw : ∀ d ∈ tables_1, d.before a0 Z = true) (ws : List Jvm.Cond) (o0 : Addr) (p1 : Int32) (f2 : UInt64) (heap_o0 : Addr) (position_o0 : Addr) (key_o0 : Addr) (y0 : Int32) (y1 : Int32) (y2 : Int32) (y3 : Int32) (P : List Int32) (K : List UInt64) (h0 : Heap) (n0 : Nat) (Z0 : n0 ≤ h0.size) (E_o0 : Exa Z h0 o0 "com/example/cross_town/crosstown/solve/NodeHeap") (F_o0_heap : Fld Z h0 o0 "com/example/cross_town/crosstown/solve/NodeHeap" "heap" "[I" (.ref heap_o0)) (F_o0_position : Fld Z h0 o0 "com/example/cross_town/crosstown/solve/NodeHeap" "position" "[I" (.ref position_o0)) (F_o0_key : Fld Z h0 o0 "com/example/cross_town/crosstown/solve/NodeHeap" "key" "[D" (.ref key_o0)) (F_o0_size : Fld Z h0 o0 "com/example/cross_town/crosstown/solve/NodeHeap" "size" "I" (.int (1 : Int32))) (V_heap_o0 : Ary tr Z h0 heap_o0 .int [(.int y0), (.int y1), (.int y2), (.int y3)]) (V_position_o0 : Ary tr Z h0 position_o0 .int (P.map Value.int)) (hl_P : (P.length = 4)) (V_key_o0 : Ary tr Z h0 key_o0 .double (K.map Value.double)) (hl_K : (K.length = 4)) (nnk : (NNk K)) (nnf : (FP.Core.val64 f2 ≠ .nan)) (rg_p1 : (0 ≤ p1.toInt ∧ p1.toInt < 4)) (pv_p1 : (pv P p1 = -1)) (hp : (Hp1 y0 P K)) (g_o0 : n0 ≤ o0) (ne_heap_o0_o0 : heap_o0 ≠ o0) (ne_position_o0_o0 : position_o0 ≠ o0) (ne_key_o0_o0 : key_o0 ≠ o0) (g_key_o0 : n0 ≤ key_o0) (ne_heap_o0_key_o0 : heap_o0 ≠ key_o0) (ne_position_o0_key_o0 : position_o0 ≠ key_o0) (g_heap_o0 : n0 ≤ heap_o0) (ne_position_o0_heap_o0 : position_o0 ≠ heap_o0) (g_position_o0 : n0 ≤ position_o0) :
    MetFree l (⟨"com/example/cross_town/crosstown/solve/NodeHeap", "insertOrLower", "(ID)V"⟩ : MethodName) (head1 (Jvm.Cond.code (⟨"com/example/cross_town/crosstown/solve/NodeHeap", "insertOrLower", "(ID)V"⟩ : MethodName) prog_33_method_3_code 5 none :: ws) ({ frames := 2, cells := 0, slots := 0, locals := 30 } : Room)) (fun a U => a = #[(.ref o0), (.int p1), (.double f2)] ∧ Z.Warmed39 U.vm ∧ U.heap = h0) (fun _ _ _ _ _ => True) (fun _ U o U' => ∃ v L, o = .returned v ∧ Q4n1 Z o0 p1 f2 heap_o0 position_o0 key_o0 y0 y1 y2 y3 P K h0 n0 v U'.heap L ∧ FrameEnd U o U' L ({ frames := 2, cells := 0, slots := 0, locals := 30 } : Room).cells ({ frames := 2, cells := 0, slots := 0, locals := 30 } : Room).slots) := by
  refine MetFree.of_bodySF (plainFor_of_name pn_com_example_cross_town_crosstown_solve_NodeHeap) hisR ?_
  intro p e s m args below meth c s₁ Bd hml0 hP hK
  obtain ⟨rfl, hZ, hh⟩ := hP
  have hx := Bd.exec
  have hby := Bd.bytes
  have hml : c.maxLocals = 5 := hml0
  have hown : s.vm.findClass "com/example/cross_town/crosstown/solve/NodeHeap" = some m.cls := findClass_of_methodNamed Bd.named
  have hnm := (name_of_methodNamed Bd.named Bd.method).1
  have X0 : Stand p l e ({ frames := 2, cells := 0, slots := 0, locals := 30 } : Room) s m #[(.ref o0), (.int p1), (.double f2)] below meth c s₁ [] 0 0 := Stand.of_body Bd
  have eH0 : s₁.heap = h0 := by rw [← hh, Bd.state]; rfl
  have N0 := Fr.nil n0
  have K0 := Keep.refl h0 [o0, key_o0, heap_o0, position_o0]
  show Gt p.tables e below (fun o U' => ∃ v L, o = .returned v ∧ Q4n1 Z o0 p1 f2 heap_o0 position_o0 key_o0 y0 y1 y2 y3 P K h0 n0 v U'.heap L ∧ FrameEnd s o U' L ({ frames := 2, cells := 0, slots := 0, locals := 30 } : Room).cells ({ frames := 2, cells := 0, slots := 0, locals := 30 } : Room).slots) _
  refine own_cast (ef4n1 m o0 p1 f2) ?_
  obtain ⟨rg_y0, pv_y0⟩ := hp
  have d_y0_p1 : ¬ y0.toInt = p1.toInt := own_pne pv_y0 pv_p1 (by decide)
  have d_p1_y0 : ¬ p1.toInt = y0.toInt := own_pne pv_p1 pv_y0 (by decide)
  refine own_aloadN X0 hx hby rfl rfl d4_0 (pc' := 1) rfl ?_
  refine own_getF X0 hx hby hZ hown (host := "") (Or.inl (hw _ (List.mem_of_getElem? (i := 13) rfl))) Via.refl eH0 F_o0_position d4_1 (pc' := 4) rfl (fun T1 X1 eH1 => ?_)
  refine own_iloadN X1 hx hby rfl d4_4 (pc' := 5) rfl ?_
  refine own_iaload X1 hx hby hZ eH1 V_position_o0 (own_rg0 rg_p1) (v := (.int (P.getD p1.toNatClampNeg 0))) (own_lget (own_rgl rg_p1 hl_P)) d4_5 (pc' := 6) rfl ?_
  refine own_istore X1 hx hby (L' := #[.val (.ref o0), .val (.int p1), .val (.double f2), .second, .val (.int (P.getD p1.toNatClampNeg 0))]) rfl d4_6 (pc' := 8) rfl ?_
  refine own_iload X1 hx hby rfl d4_8 (pc' := 10) rfl ?_
  refine own_iconst X1 hx hby (v := (-1 : Int32)) (by decide) d4_10 (pc' := 11) rfl ?_
  have hk2 : (P.getD p1.toNatClampNeg 0) = (-1 : Int32) := own_pm pv_p1 (by decide)
  refine own_icF X1 hx hby d4_11 (own_ic_ne_p hk2) (pc' := 14) rfl ?_
  refine own_aloadN X1 hx hby rfl rfl d4_14 (pc' := 15) rfl ?_
  refine own_getF X1 hx hby hZ hown (host := "") (Or.inl (hw _ (List.mem_of_getElem? (i := 27) rfl))) Via.refl eH1 F_o0_size d4_15 (pc' := 18) rfl (fun T3 X3 eH3 => ?_)
  refine own_istore X3 hx hby (L' := #[.val (.ref o0), .val (.int p1), .val (.double f2), .second, .val (.int (1 : Int32))]) rfl d4_18 (pc' := 20) rfl ?_
  refine own_aloadN X3 hx hby rfl rfl d4_20 (pc' := 21) rfl ?_
  refine own_dup X3 hx hby rfl d4_21 (pc' := 22) rfl ?_
  refine own_getF X3 hx hby hZ hown (host := "") (Or.inl (hw _ (List.mem_of_getElem? (i := 27) rfl))) Via.refl eH3 F_o0_size d4_22 (pc' := 25) rfl (fun T4 X4 eH4 => ?_)
  refine own_iconst X4 hx hby (v := (1 : Int32)) (by decide) d4_25 (pc' := 26) rfl ?_
  refine own_iadd X4 hx hby (v := (2 : Int32)) (by decide) d4_26 (pc' := 27) rfl ?_
  refine own_putF X4 hx hby hZ hown (host := "") (Or.inl (hw _ (List.mem_of_getElem? (i := 27) rfl))) Via.refl eH4 F_o0_size E_o0 (Or.inl (hw _ (List.mem_of_getElem? (i := 28) rfl))) (hw _ (List.mem_of_getElem? (i := 2) rfl)) (ty := .int) (by decide) rfl rfl d4_27 (pc' := 30) rfl (fun T5 h5 X5 eH5 W5 => ?_)
  replace E_o0 := E_o0.wr W5
  replace F_o0_heap := F_o0_heap.other W5 (Or.inr (slot_ne (Or.inr (hw _ (List.mem_of_getElem? (i := 12) rfl))) (Or.inl (hw _ (List.mem_of_getElem? (i := 28) rfl))) (by decide) (t := (.array .int)) (t' := .int) (by decide) (by decide)))
  replace F_o0_position := F_o0_position.other W5 (Or.inr (slot_ne (Or.inr (hw _ (List.mem_of_getElem? (i := 14) rfl))) (Or.inl (hw _ (List.mem_of_getElem? (i := 28) rfl))) (by decide) (t := (.array .int)) (t' := .int) (by decide) (by decide)))
  replace F_o0_key := F_o0_key.other W5 (Or.inr (slot_ne (Or.inr (hw _ (List.mem_of_getElem? (i := 17) rfl))) (Or.inl (hw _ (List.mem_of_getElem? (i := 28) rfl))) (by decide) (t := (.array .double)) (t' := .int) (by decide) (by decide)))
  replace F_o0_size := F_o0_size.same W5
  replace V_heap_o0 := V_heap_o0.other W5 ne_heap_o0_o0
  replace V_position_o0 := V_position_o0.other W5 ne_position_o0_o0
  replace V_key_o0 := V_key_o0.other W5 ne_key_o0_o0
  have N5 := Fr.snoc X5 N0 g_o0
  replace K0 := K0.wr W5 (Or.inl (by simp))
  replace Z0 := Nat.le_trans Z0 (Nat.le_of_eq W5.size.symm)
  refine own_aloadN X5 hx hby rfl rfl d4_30 (pc' := 31) rfl ?_
  refine own_getF X5 hx hby hZ hown (host := "") (Or.inl (hw _ (List.mem_of_getElem? (i := 16) rfl))) Via.refl eH5 F_o0_key d4_31 (pc' := 34) rfl (fun T6 X6 eH6 => ?_)
  refine own_iloadN X6 hx hby rfl d4_34 (pc' := 35) rfl ?_
  refine own_dloadN X6 hx hby rfl d4_35 (pc' := 36) rfl ?_
  refine own_dastore X6 hx hby hZ eH6 V_key_o0 (own_rg0 rg_p1) (n := p1.toNatClampNeg) rfl (by rw [List.length_map]; exact own_rgl rg_p1 hl_K) d4_36 (pc' := 37) rfl (fun T7 h7 X7 eH7 W7 => ?_)
  replace E_o0 := E_o0.wr W7
  replace F_o0_heap := F_o0_heap.other W7 (Or.inl (Ne.symm ne_key_o0_o0))
  replace F_o0_position := F_o0_position.other W7 (Or.inl (Ne.symm ne_key_o0_o0))
  replace F_o0_key := F_o0_key.other W7 (Or.inl (Ne.symm ne_key_o0_o0))
  replace F_o0_size := F_o0_size.other W7 (Or.inl (Ne.symm ne_key_o0_o0))
  replace V_heap_o0 := V_heap_o0.other W7 ne_heap_o0_key_o0
  replace V_position_o0 := V_position_o0.other W7 ne_position_o0_key_o0
  have N7 := Fr.snoc X7 N5 g_key_o0
  replace K0 := K0.wr W7 (Or.inl (by simp))
  replace Z0 := Nat.le_trans Z0 (Nat.le_of_eq W7.size.symm)
  have hl8 : (K.set p1.toNatClampNeg f2).length = 4 := by rw [List.length_set]; exact hl_K
  replace V_key_o0 : Ary tr Z h7 key_o0 .double ((K.set p1.toNatClampNeg f2).map Value.double) := by rw [List.map_set]; exact V_key_o0.set W7
  refine own_aloadN X7 hx hby rfl rfl d4_37 (pc' := 38) rfl ?_
  refine own_iload X7 hx hby rfl d4_38 (pc' := 40) rfl ?_
  refine own_iloadN X7 hx hby rfl d4_40 (pc' := 41) rfl ?_
  refine own_private X7 hx hby hZ (y := (⟨"com/example/cross_town/crosstown/solve/NodeHeap", "siftUp", "(II)V"⟩ : MethodName)) (rest := []) hown (hw _ (List.mem_of_getElem? (i := 29) rfl)) (hw _ (List.mem_of_getElem? (i := 30) rfl)) (hw _ (List.mem_of_getElem? (i := 2) rfl)) (hw _ (List.mem_of_getElem? (i := 31) rfl)) (hw _ (List.mem_of_getElem? (i := 32) rfl)) (hw _ (List.mem_of_getElem? (i := 3) rfl)) (by decide) (rm5n1 l Z a0 hw [] o0 p1 heap_o0 position_o0 key_o0 y0 y1 y2 y3 P (K.set p1.toNatClampNeg f2) h7 n0 Z0 E_o0 F_o0_heap F_o0_position F_o0_key V_heap_o0 V_position_o0 (by first | assumption | rfl | (simp only [List.length_set]; first | assumption | rfl)) V_key_o0 (by first | assumption | rfl | (simp only [List.length_set]; first | assumption | rfl)) rg_p1 (own_nnk nnk nnf (own_rgl rg_p1 hl_K)) pv_p1 rg_y0 pv_y0 g_heap_o0 (Ne.symm ne_heap_o0_o0) ne_position_o0_heap_o0 g_position_o0 (Ne.symm ne_position_o0_o0) (Ne.symm ne_position_o0_key_o0) (Ne.symm ne_heap_o0_key_o0)) eH7 (by rw [hml]; rfl) (a := o0) E_o0 (argsL := [(.int (1 : Int32)), (.int p1)]) rfl (lenOf pd_1 rfl) rfl d4_41 (pc' := 44) rfl (by decide) (W := 0) (Nat.le_of_eq rfl) (by decide) (by decide) (by decide) (fun T9 h9 Lc9 v9r X9 eH9 hQ9 => ?_)
  obtain ⟨rfl, Nq9, Kq9, gq9_0, gq9_1, gq9_2, gq9_3⟩ := hQ9
  have N9 := Fr.app N7 Nq9
  replace E_o0 := E_o0.keep Kq9
  replace F_o0_heap := F_o0_heap.keep Kq9 (ninS (Ne.symm ne_position_o0_o0) (ninS (Ne.symm ne_heap_o0_o0) nin0))
  replace F_o0_position := F_o0_position.keep Kq9 (ninS (Ne.symm ne_position_o0_o0) (ninS (Ne.symm ne_heap_o0_o0) nin0))
  replace F_o0_key := F_o0_key.keep Kq9 (ninS (Ne.symm ne_position_o0_o0) (ninS (Ne.symm ne_heap_o0_o0) nin0))
  replace F_o0_size := F_o0_size.keep Kq9 (ninS (Ne.symm ne_position_o0_o0) (ninS (Ne.symm ne_heap_o0_o0) nin0))
  replace V_key_o0 := V_key_o0.keep Kq9 (ninS (Ne.symm ne_position_o0_key_o0) (ninS (Ne.symm ne_heap_o0_key_o0) nin0))
  replace K0 := K0.trans Kq9 (allS (Or.inl (by simp)) (allS (Or.inl (by simp)) all0))
  have hl10 : (if dle ((K.set p1.toNatClampNeg f2).getD y0.toNatClampNeg 0) ((K.set p1.toNatClampNeg f2).getD p1.toNatClampNeg 0) then (P.set p1.toNatClampNeg (1 : Int32)) else ((P.set y0.toNatClampNeg (1 : Int32)).set p1.toNatClampNeg (0 : Int32))).length = 4 := by (repeat' split) <;> (simp only [List.length_set]; first | assumption | rfl)
  have V_position_o0 := gq9_0
  have V_heap_o0 := gq9_1
  have hp_9 : Hp2 (if dle ((K.set p1.toNatClampNeg f2).getD y0.toNatClampNeg 0) ((K.set p1.toNatClampNeg f2).getD p1.toNatClampNeg 0) then y0 else p1) (if dle ((K.set p1.toNatClampNeg f2).getD y0.toNatClampNeg 0) ((K.set p1.toNatClampNeg f2).getD p1.toNatClampNeg 0) then p1 else y0) (if dle ((K.set p1.toNatClampNeg f2).getD y0.toNatClampNeg 0) ((K.set p1.toNatClampNeg f2).getD p1.toNatClampNeg 0) then (P.set p1.toNatClampNeg (1 : Int32)) else ((P.set y0.toNatClampNeg (1 : Int32)).set p1.toNatClampNeg (0 : Int32))) (K.set p1.toNatClampNeg f2) := gq9_2
  have ab_9 : ∀ z : Int32, (0 ≤ z.toInt ∧ z.toInt < 4) → ¬ p1.toInt = z.toInt → pv P z = -1 → pv (if dle ((K.set p1.toNatClampNeg f2).getD y0.toNatClampNeg 0) ((K.set p1.toNatClampNeg f2).getD p1.toNatClampNeg 0) then (P.set p1.toNatClampNeg (1 : Int32)) else ((P.set y0.toNatClampNeg (1 : Int32)).set p1.toNatClampNeg (0 : Int32))) z = -1 := gq9_3
  replace Z0 := Nat.le_trans Z0 Kq9.1
  exact own_retV X9 hx hby Bd.notSynchronized Bd.returns d4_44 (by decide) (by decide) eH9 ⟨rfl, N9, K0, E_o0, F_o0_heap, F_o0_position, F_o0_key, F_o0_size, V_key_o0, V_heap_o0, V_position_o0, hp_9, (own_nnk nnk nnf (own_rgl rg_p1 hl_K)), ab_9⟩
theorem ef4n2 (m : MethodId) (x0 : Addr) (x1 : Int32) (x2 : UInt64) : entryFrame m #[(.ref x0), (.int x1), (.double x2)] 5 = mkF m 0 #[.val (.ref x0), .val (.int x1), .val (.double x2), .second, .unset] [] := by first | (simp [entryFrame, mkF, argsToLocals, Value.category]; done) | rfl
def Q4n2 (Z : State) (o0 : Addr) (p1 : Int32) (f2 : UInt64) (heap_o0 : Addr) (position_o0 : Addr) (key_o0 : Addr) (y0 : Int32) (y1 : Int32) (y2 : Int32) (y3 : Int32) (P : List Int32) (K : List UInt64) (h0 : Heap) (n0 : Nat) (v : Option Value) (h : Heap) (L : List Loc) : Prop := v = none ∧ Fr n0 L ∧ Keep h0 h [o0, key_o0, heap_o0, position_o0] ∧ Exa Z h o0 "com/example/cross_town/crosstown/solve/NodeHeap" ∧ Fld Z h o0 "com/example/cross_town/crosstown/solve/NodeHeap" "heap" "[I" (.ref heap_o0) ∧ Fld Z h o0 "com/example/cross_town/crosstown/solve/NodeHeap" "position" "[I" (.ref position_o0) ∧ Fld Z h o0 "com/example/cross_town/crosstown/solve/NodeHeap" "key" "[D" (.ref key_o0) ∧ Fld Z h o0 "com/example/cross_town/crosstown/solve/NodeHeap" "size" "I" (.int (3 : Int32)) ∧ Ary tr Z h key_o0 .double ((K.set p1.toNatClampNeg f2).map Value.double) ∧ Ary tr Z h heap_o0 .int [(.int (if dle ((K.set p1.toNatClampNeg f2).getD y0.toNatClampNeg 0) ((K.set p1.toNatClampNeg f2).getD p1.toNatClampNeg 0) then y0 else p1)), (.int y1), (.int (if dle ((K.set p1.toNatClampNeg f2).getD y0.toNatClampNeg 0) ((K.set p1.toNatClampNeg f2).getD p1.toNatClampNeg 0) then p1 else y0)), (.int y3)] ∧ Ary tr Z h position_o0 .int ((if dle ((K.set p1.toNatClampNeg f2).getD y0.toNatClampNeg 0) ((K.set p1.toNatClampNeg f2).getD p1.toNatClampNeg 0) then (P.set p1.toNatClampNeg (2 : Int32)) else ((P.set y0.toNatClampNeg (2 : Int32)).set p1.toNatClampNeg (0 : Int32))).map Value.int) ∧ (Hp3 (if dle ((K.set p1.toNatClampNeg f2).getD y0.toNatClampNeg 0) ((K.set p1.toNatClampNeg f2).getD p1.toNatClampNeg 0) then y0 else p1) y1 (if dle ((K.set p1.toNatClampNeg f2).getD y0.toNatClampNeg 0) ((K.set p1.toNatClampNeg f2).getD p1.toNatClampNeg 0) then p1 else y0) (if dle ((K.set p1.toNatClampNeg f2).getD y0.toNatClampNeg 0) ((K.set p1.toNatClampNeg f2).getD p1.toNatClampNeg 0) then (P.set p1.toNatClampNeg (2 : Int32)) else ((P.set y0.toNatClampNeg (2 : Int32)).set p1.toNatClampNeg (0 : Int32))) (K.set p1.toNatClampNeg f2)) ∧ (NNk (K.set p1.toNatClampNeg f2)) ∧ (∀ z : Int32, (0 ≤ z.toInt ∧ z.toInt < 4) → ¬ p1.toInt = z.toInt → pv P z = -1 → pv (if dle ((K.set p1.toNatClampNeg f2).getD y0.toNatClampNeg 0) ((K.set p1.toNatClampNeg f2).getD p1.toNatClampNeg 0) then (P.set p1.toNatClampNeg (2 : Int32)) else ((P.set y0.toNatClampNeg (2 : Int32)).set p1.toNatClampNeg (0 : Int32))) z = -1)
set_option maxRecDepth 65536 in
set_option maxHeartbeats 40000000 in
theorem rm4n2 (l : Launch) (Z : State) (a0 : Array Value) (hw : ∀ d ∈ tables_1, d.before a0 Z = true) (ws : List Jvm.Cond) (o0 : Addr) (p1 : Int32) (f2 : UInt64) (heap_o0 : Addr) (position_o0 : Addr) (key_o0 : Addr) (y0 : Int32) (y1 : Int32) (y2 : Int32) (y3 : Int32) (P : List Int32) (K : List UInt64) (h0 : Heap) (n0 : Nat) (Z0 : n0 ≤ h0.size) (E_o0 : Exa Z h0 o0 "com/example/cross_town/crosstown/solve/NodeHeap") (F_o0_heap : Fld Z h0 o0 "com/example/cross_town/crosstown/solve/NodeHeap" "heap" "[I" (.ref heap_o0)) (F_o0_position : Fld Z h0 o0 "com/example/cross_town/crosstown/solve/NodeHeap" "position" "[I" (.ref position_o0)) (F_o0_key : Fld Z h0 o0 "com/example/cross_town/crosstown/solve/NodeHeap" "key" "[D" (.ref key_o0)) (F_o0_size : Fld Z h0 o0 "com/example/cross_town/crosstown/solve/NodeHeap" "size" "I" (.int (2 : Int32))) (V_heap_o0 : Ary tr Z h0 heap_o0 .int [(.int y0), (.int y1), (.int y2), (.int y3)]) (V_position_o0 : Ary tr Z h0 position_o0 .int (P.map Value.int)) (hl_P : (P.length = 4)) (V_key_o0 : Ary tr Z h0 key_o0 .double (K.map Value.double)) (hl_K : (K.length = 4)) (nnk : (NNk K)) (nnf : (FP.Core.val64 f2 ≠ .nan)) (rg_p1 : (0 ≤ p1.toInt ∧ p1.toInt < 4)) (pv_p1 : (pv P p1 = -1)) (hp : (Hp2 y0 y1 P K)) (g_o0 : n0 ≤ o0) (ne_heap_o0_o0 : heap_o0 ≠ o0) (ne_position_o0_o0 : position_o0 ≠ o0) (ne_key_o0_o0 : key_o0 ≠ o0) (g_key_o0 : n0 ≤ key_o0) (ne_heap_o0_key_o0 : heap_o0 ≠ key_o0) (ne_position_o0_key_o0 : position_o0 ≠ key_o0) (g_heap_o0 : n0 ≤ heap_o0) (ne_position_o0_heap_o0 : position_o0 ≠ heap_o0) (g_position_o0 : n0 ≤ position_o0) :
    MetFree l (⟨"com/example/cross_town/crosstown/solve/NodeHeap", "insertOrLower", "(ID)V"⟩ : MethodName) (head1 (Jvm.Cond.code (⟨"com/example/cross_town/crosstown/solve/NodeHeap", "insertOrLower", "(ID)V"⟩ : MethodName) prog_33_method_3_code 5 none :: ws) ({ frames := 2, cells := 0, slots := 0, locals := 30 } : Room)) (fun a U => a = #[(.ref o0), (.int p1), (.double f2)] ∧ Z.Warmed39 U.vm ∧ U.heap = h0) (fun _ _ _ _ _ => True) (fun _ U o U' => ∃ v L, o = .returned v ∧ Q4n2 Z o0 p1 f2 heap_o0 position_o0 key_o0 y0 y1 y2 y3 P K h0 n0 v U'.heap L ∧ FrameEnd U o U' L ({ frames := 2, cells := 0, slots := 0, locals := 30 } : Room).cells ({ frames := 2, cells := 0, slots := 0, locals := 30 } : Room).slots) := by
  refine MetFree.of_bodySF (plainFor_of_name pn_com_example_cross_town_crosstown_solve_NodeHeap) hisR ?_
  intro p e s m args below meth c s₁ Bd hml0 hP hK
  obtain ⟨rfl, hZ, hh⟩ := hP
  have hx := Bd.exec
  have hby := Bd.bytes
  have hml : c.maxLocals = 5 := hml0
  have hown : s.vm.findClass "com/example/cross_town/crosstown/solve/NodeHeap" = some m.cls := findClass_of_methodNamed Bd.named
  have hnm := (name_of_methodNamed Bd.named Bd.method).1
  have X0 : Stand p l e ({ frames := 2, cells := 0, slots := 0, locals := 30 } : Room) s m #[(.ref o0), (.int p1), (.double f2)] below meth c s₁ [] 0 0 := Stand.of_body Bd
  have eH0 : s₁.heap = h0 := by rw [← hh, Bd.state]; rfl
  have N0 := Fr.nil n0
  have K0 := Keep.refl h0 [o0, key_o0, heap_o0, position_o0]
  show Gt p.tables e below (fun o U' => ∃ v L, o = .returned v ∧ Q4n2 Z o0 p1 f2 heap_o0 position_o0 key_o0 y0 y1 y2 y3 P K h0 n0 v U'.heap L ∧ FrameEnd s o U' L ({ frames := 2, cells := 0, slots := 0, locals := 30 } : Room).cells ({ frames := 2, cells := 0, slots := 0, locals := 30 } : Room).slots) _
  refine own_cast (ef4n2 m o0 p1 f2) ?_
  obtain ⟨rg_y0, rg_y1, pv_y0, pv_y1, ord1⟩ := hp
  have d_y0_y1 : ¬ y0.toInt = y1.toInt := own_pne pv_y0 pv_y1 (by decide)
  have d_y0_p1 : ¬ y0.toInt = p1.toInt := own_pne pv_y0 pv_p1 (by decide)
  have d_y1_y0 : ¬ y1.toInt = y0.toInt := own_pne pv_y1 pv_y0 (by decide)
  have d_y1_p1 : ¬ y1.toInt = p1.toInt := own_pne pv_y1 pv_p1 (by decide)
  have d_p1_y0 : ¬ p1.toInt = y0.toInt := own_pne pv_p1 pv_y0 (by decide)
  have d_p1_y1 : ¬ p1.toInt = y1.toInt := own_pne pv_p1 pv_y1 (by decide)
  refine own_aloadN X0 hx hby rfl rfl d4_0 (pc' := 1) rfl ?_
  refine own_getF X0 hx hby hZ hown (host := "") (Or.inl (hw _ (List.mem_of_getElem? (i := 13) rfl))) Via.refl eH0 F_o0_position d4_1 (pc' := 4) rfl (fun T1 X1 eH1 => ?_)
  refine own_iloadN X1 hx hby rfl d4_4 (pc' := 5) rfl ?_
  refine own_iaload X1 hx hby hZ eH1 V_position_o0 (own_rg0 rg_p1) (v := (.int (P.getD p1.toNatClampNeg 0))) (own_lget (own_rgl rg_p1 hl_P)) d4_5 (pc' := 6) rfl ?_
  refine own_istore X1 hx hby (L' := #[.val (.ref o0), .val (.int p1), .val (.double f2), .second, .val (.int (P.getD p1.toNatClampNeg 0))]) rfl d4_6 (pc' := 8) rfl ?_
  refine own_iload X1 hx hby rfl d4_8 (pc' := 10) rfl ?_
  refine own_iconst X1 hx hby (v := (-1 : Int32)) (by decide) d4_10 (pc' := 11) rfl ?_
  have hk2 : (P.getD p1.toNatClampNeg 0) = (-1 : Int32) := own_pm pv_p1 (by decide)
  refine own_icF X1 hx hby d4_11 (own_ic_ne_p hk2) (pc' := 14) rfl ?_
  refine own_aloadN X1 hx hby rfl rfl d4_14 (pc' := 15) rfl ?_
  refine own_getF X1 hx hby hZ hown (host := "") (Or.inl (hw _ (List.mem_of_getElem? (i := 27) rfl))) Via.refl eH1 F_o0_size d4_15 (pc' := 18) rfl (fun T3 X3 eH3 => ?_)
  refine own_istore X3 hx hby (L' := #[.val (.ref o0), .val (.int p1), .val (.double f2), .second, .val (.int (2 : Int32))]) rfl d4_18 (pc' := 20) rfl ?_
  refine own_aloadN X3 hx hby rfl rfl d4_20 (pc' := 21) rfl ?_
  refine own_dup X3 hx hby rfl d4_21 (pc' := 22) rfl ?_
  refine own_getF X3 hx hby hZ hown (host := "") (Or.inl (hw _ (List.mem_of_getElem? (i := 27) rfl))) Via.refl eH3 F_o0_size d4_22 (pc' := 25) rfl (fun T4 X4 eH4 => ?_)
  refine own_iconst X4 hx hby (v := (1 : Int32)) (by decide) d4_25 (pc' := 26) rfl ?_
  refine own_iadd X4 hx hby (v := (3 : Int32)) (by decide) d4_26 (pc' := 27) rfl ?_
  refine own_putF X4 hx hby hZ hown (host := "") (Or.inl (hw _ (List.mem_of_getElem? (i := 27) rfl))) Via.refl eH4 F_o0_size E_o0 (Or.inl (hw _ (List.mem_of_getElem? (i := 28) rfl))) (hw _ (List.mem_of_getElem? (i := 2) rfl)) (ty := .int) (by decide) rfl rfl d4_27 (pc' := 30) rfl (fun T5 h5 X5 eH5 W5 => ?_)
  replace E_o0 := E_o0.wr W5
  replace F_o0_heap := F_o0_heap.other W5 (Or.inr (slot_ne (Or.inr (hw _ (List.mem_of_getElem? (i := 12) rfl))) (Or.inl (hw _ (List.mem_of_getElem? (i := 28) rfl))) (by decide) (t := (.array .int)) (t' := .int) (by decide) (by decide)))
  replace F_o0_position := F_o0_position.other W5 (Or.inr (slot_ne (Or.inr (hw _ (List.mem_of_getElem? (i := 14) rfl))) (Or.inl (hw _ (List.mem_of_getElem? (i := 28) rfl))) (by decide) (t := (.array .int)) (t' := .int) (by decide) (by decide)))
  replace F_o0_key := F_o0_key.other W5 (Or.inr (slot_ne (Or.inr (hw _ (List.mem_of_getElem? (i := 17) rfl))) (Or.inl (hw _ (List.mem_of_getElem? (i := 28) rfl))) (by decide) (t := (.array .double)) (t' := .int) (by decide) (by decide)))
  replace F_o0_size := F_o0_size.same W5
  replace V_heap_o0 := V_heap_o0.other W5 ne_heap_o0_o0
  replace V_position_o0 := V_position_o0.other W5 ne_position_o0_o0
  replace V_key_o0 := V_key_o0.other W5 ne_key_o0_o0
  have N5 := Fr.snoc X5 N0 g_o0
  replace K0 := K0.wr W5 (Or.inl (by simp))
  replace Z0 := Nat.le_trans Z0 (Nat.le_of_eq W5.size.symm)
  refine own_aloadN X5 hx hby rfl rfl d4_30 (pc' := 31) rfl ?_
  refine own_getF X5 hx hby hZ hown (host := "") (Or.inl (hw _ (List.mem_of_getElem? (i := 16) rfl))) Via.refl eH5 F_o0_key d4_31 (pc' := 34) rfl (fun T6 X6 eH6 => ?_)
  refine own_iloadN X6 hx hby rfl d4_34 (pc' := 35) rfl ?_
  refine own_dloadN X6 hx hby rfl d4_35 (pc' := 36) rfl ?_
  refine own_dastore X6 hx hby hZ eH6 V_key_o0 (own_rg0 rg_p1) (n := p1.toNatClampNeg) rfl (by rw [List.length_map]; exact own_rgl rg_p1 hl_K) d4_36 (pc' := 37) rfl (fun T7 h7 X7 eH7 W7 => ?_)
  replace E_o0 := E_o0.wr W7
  replace F_o0_heap := F_o0_heap.other W7 (Or.inl (Ne.symm ne_key_o0_o0))
  replace F_o0_position := F_o0_position.other W7 (Or.inl (Ne.symm ne_key_o0_o0))
  replace F_o0_key := F_o0_key.other W7 (Or.inl (Ne.symm ne_key_o0_o0))
  replace F_o0_size := F_o0_size.other W7 (Or.inl (Ne.symm ne_key_o0_o0))
  replace V_heap_o0 := V_heap_o0.other W7 ne_heap_o0_key_o0
  replace V_position_o0 := V_position_o0.other W7 ne_position_o0_key_o0
  have N7 := Fr.snoc X7 N5 g_key_o0
  replace K0 := K0.wr W7 (Or.inl (by simp))
  replace Z0 := Nat.le_trans Z0 (Nat.le_of_eq W7.size.symm)
  have hl8 : (K.set p1.toNatClampNeg f2).length = 4 := by rw [List.length_set]; exact hl_K
  replace V_key_o0 : Ary tr Z h7 key_o0 .double ((K.set p1.toNatClampNeg f2).map Value.double) := by rw [List.map_set]; exact V_key_o0.set W7
  refine own_aloadN X7 hx hby rfl rfl d4_37 (pc' := 38) rfl ?_
  refine own_iload X7 hx hby rfl d4_38 (pc' := 40) rfl ?_
  refine own_iloadN X7 hx hby rfl d4_40 (pc' := 41) rfl ?_
  refine own_private X7 hx hby hZ (y := (⟨"com/example/cross_town/crosstown/solve/NodeHeap", "siftUp", "(II)V"⟩ : MethodName)) (rest := []) hown (hw _ (List.mem_of_getElem? (i := 29) rfl)) (hw _ (List.mem_of_getElem? (i := 30) rfl)) (hw _ (List.mem_of_getElem? (i := 2) rfl)) (hw _ (List.mem_of_getElem? (i := 31) rfl)) (hw _ (List.mem_of_getElem? (i := 32) rfl)) (hw _ (List.mem_of_getElem? (i := 3) rfl)) (by decide) (rm5n2 l Z a0 hw [] o0 p1 heap_o0 position_o0 key_o0 y0 y1 y2 y3 P (K.set p1.toNatClampNeg f2) h7 n0 Z0 E_o0 F_o0_heap F_o0_position F_o0_key V_heap_o0 V_position_o0 (by first | assumption | rfl | (simp only [List.length_set]; first | assumption | rfl)) V_key_o0 (by first | assumption | rfl | (simp only [List.length_set]; first | assumption | rfl)) rg_p1 (own_nnk nnk nnf (own_rgl rg_p1 hl_K)) pv_p1 rg_y0 pv_y0 rg_y1 pv_y1 (by rw [(show kv (K.set p1.toNatClampNeg f2) y0 = kv K y0 from by rw [own_kvs hl_K rg_p1 rg_y0, if_neg d_p1_y0]), (show kv (K.set p1.toNatClampNeg f2) y1 = kv K y1 from by rw [own_kvs hl_K rg_p1 rg_y1, if_neg d_p1_y1])]; omega) g_heap_o0 (Ne.symm ne_heap_o0_o0) ne_position_o0_heap_o0 g_position_o0 (Ne.symm ne_position_o0_o0) (Ne.symm ne_position_o0_key_o0) (Ne.symm ne_heap_o0_key_o0)) eH7 (by rw [hml]; rfl) (a := o0) E_o0 (argsL := [(.int (2 : Int32)), (.int p1)]) rfl (lenOf pd_1 rfl) rfl d4_41 (pc' := 44) rfl (by decide) (W := 0) (Nat.le_of_eq rfl) (by decide) (by decide) (by decide) (fun T9 h9 Lc9 v9r X9 eH9 hQ9 => ?_)
  obtain ⟨rfl, Nq9, Kq9, gq9_0, gq9_1, gq9_2, gq9_3⟩ := hQ9
  have N9 := Fr.app N7 Nq9
  replace E_o0 := E_o0.keep Kq9
  replace F_o0_heap := F_o0_heap.keep Kq9 (ninS (Ne.symm ne_position_o0_o0) (ninS (Ne.symm ne_heap_o0_o0) nin0))
  replace F_o0_position := F_o0_position.keep Kq9 (ninS (Ne.symm ne_position_o0_o0) (ninS (Ne.symm ne_heap_o0_o0) nin0))
  replace F_o0_key := F_o0_key.keep Kq9 (ninS (Ne.symm ne_position_o0_o0) (ninS (Ne.symm ne_heap_o0_o0) nin0))
  replace F_o0_size := F_o0_size.keep Kq9 (ninS (Ne.symm ne_position_o0_o0) (ninS (Ne.symm ne_heap_o0_o0) nin0))
  replace V_key_o0 := V_key_o0.keep Kq9 (ninS (Ne.symm ne_position_o0_key_o0) (ninS (Ne.symm ne_heap_o0_key_o0) nin0))
  replace K0 := K0.trans Kq9 (allS (Or.inl (by simp)) (allS (Or.inl (by simp)) all0))
  have hl10 : (if dle ((K.set p1.toNatClampNeg f2).getD y0.toNatClampNeg 0) ((K.set p1.toNatClampNeg f2).getD p1.toNatClampNeg 0) then (P.set p1.toNatClampNeg (2 : Int32)) else ((P.set y0.toNatClampNeg (2 : Int32)).set p1.toNatClampNeg (0 : Int32))).length = 4 := by (repeat' split) <;> (simp only [List.length_set]; first | assumption | rfl)
  have V_position_o0 := gq9_0
  have V_heap_o0 := gq9_1
  have hp_9 : Hp3 (if dle ((K.set p1.toNatClampNeg f2).getD y0.toNatClampNeg 0) ((K.set p1.toNatClampNeg f2).getD p1.toNatClampNeg 0) then y0 else p1) y1 (if dle ((K.set p1.toNatClampNeg f2).getD y0.toNatClampNeg 0) ((K.set p1.toNatClampNeg f2).getD p1.toNatClampNeg 0) then p1 else y0) (if dle ((K.set p1.toNatClampNeg f2).getD y0.toNatClampNeg 0) ((K.set p1.toNatClampNeg f2).getD p1.toNatClampNeg 0) then (P.set p1.toNatClampNeg (2 : Int32)) else ((P.set y0.toNatClampNeg (2 : Int32)).set p1.toNatClampNeg (0 : Int32))) (K.set p1.toNatClampNeg f2) := gq9_2
  have ab_9 : ∀ z : Int32, (0 ≤ z.toInt ∧ z.toInt < 4) → ¬ p1.toInt = z.toInt → pv P z = -1 → pv (if dle ((K.set p1.toNatClampNeg f2).getD y0.toNatClampNeg 0) ((K.set p1.toNatClampNeg f2).getD p1.toNatClampNeg 0) then (P.set p1.toNatClampNeg (2 : Int32)) else ((P.set y0.toNatClampNeg (2 : Int32)).set p1.toNatClampNeg (0 : Int32))) z = -1 := gq9_3
  replace Z0 := Nat.le_trans Z0 Kq9.1
  exact own_retV X9 hx hby Bd.notSynchronized Bd.returns d4_44 (by decide) (by decide) eH9 ⟨rfl, N9, K0, E_o0, F_o0_heap, F_o0_position, F_o0_key, F_o0_size, V_key_o0, V_heap_o0, V_position_o0, hp_9, (own_nnk nnk nnf (own_rgl rg_p1 hl_K)), ab_9⟩
theorem ef4n3 (m : MethodId) (x0 : Addr) (x1 : Int32) (x2 : UInt64) : entryFrame m #[(.ref x0), (.int x1), (.double x2)] 5 = mkF m 0 #[.val (.ref x0), .val (.int x1), .val (.double x2), .second, .unset] [] := by first | (simp [entryFrame, mkF, argsToLocals, Value.category]; done) | rfl
def Q4n3 (Z : State) (o0 : Addr) (p1 : Int32) (f2 : UInt64) (heap_o0 : Addr) (position_o0 : Addr) (key_o0 : Addr) (y0 : Int32) (y1 : Int32) (y2 : Int32) (y3 : Int32) (P : List Int32) (K : List UInt64) (h0 : Heap) (n0 : Nat) (v : Option Value) (h : Heap) (L : List Loc) : Prop := v = none ∧ Fr n0 L ∧ Keep h0 h [o0, key_o0, heap_o0, position_o0] ∧ Exa Z h o0 "com/example/cross_town/crosstown/solve/NodeHeap" ∧ Fld Z h o0 "com/example/cross_town/crosstown/solve/NodeHeap" "heap" "[I" (.ref heap_o0) ∧ Fld Z h o0 "com/example/cross_town/crosstown/solve/NodeHeap" "position" "[I" (.ref position_o0) ∧ Fld Z h o0 "com/example/cross_town/crosstown/solve/NodeHeap" "key" "[D" (.ref key_o0) ∧ Fld Z h o0 "com/example/cross_town/crosstown/solve/NodeHeap" "size" "I" (.int (4 : Int32)) ∧ Ary tr Z h key_o0 .double ((K.set p1.toNatClampNeg f2).map Value.double) ∧ Ary tr Z h heap_o0 .int [(.int (if dle ((K.set p1.toNatClampNeg f2).getD y1.toNatClampNeg 0) ((K.set p1.toNatClampNeg f2).getD p1.toNatClampNeg 0) then y0 else (if dle ((K.set p1.toNatClampNeg f2).getD y0.toNatClampNeg 0) ((K.set p1.toNatClampNeg f2).getD p1.toNatClampNeg 0) then y0 else p1))), (.int (if dle ((K.set p1.toNatClampNeg f2).getD y1.toNatClampNeg 0) ((K.set p1.toNatClampNeg f2).getD p1.toNatClampNeg 0) then y1 else (if dle ((K.set p1.toNatClampNeg f2).getD y0.toNatClampNeg 0) ((K.set p1.toNatClampNeg f2).getD p1.toNatClampNeg 0) then p1 else y0))), (.int y2), (.int (if dle ((K.set p1.toNatClampNeg f2).getD y1.toNatClampNeg 0) ((K.set p1.toNatClampNeg f2).getD p1.toNatClampNeg 0) then p1 else (if dle ((K.set p1.toNatClampNeg f2).getD y0.toNatClampNeg 0) ((K.set p1.toNatClampNeg f2).getD p1.toNatClampNeg 0) then y1 else y1)))] ∧ Ary tr Z h position_o0 .int ((if dle ((K.set p1.toNatClampNeg f2).getD y1.toNatClampNeg 0) ((K.set p1.toNatClampNeg f2).getD p1.toNatClampNeg 0) then (P.set p1.toNatClampNeg (3 : Int32)) else (if dle ((K.set p1.toNatClampNeg f2).getD y0.toNatClampNeg 0) ((K.set p1.toNatClampNeg f2).getD p1.toNatClampNeg 0) then ((P.set y1.toNatClampNeg (3 : Int32)).set p1.toNatClampNeg (1 : Int32)) else (((P.set y1.toNatClampNeg (3 : Int32)).set y0.toNatClampNeg (1 : Int32)).set p1.toNatClampNeg (0 : Int32)))).map Value.int) ∧ (Hp4 (if dle ((K.set p1.toNatClampNeg f2).getD y1.toNatClampNeg 0) ((K.set p1.toNatClampNeg f2).getD p1.toNatClampNeg 0) then y0 else (if dle ((K.set p1.toNatClampNeg f2).getD y0.toNatClampNeg 0) ((K.set p1.toNatClampNeg f2).getD p1.toNatClampNeg 0) then y0 else p1)) (if dle ((K.set p1.toNatClampNeg f2).getD y1.toNatClampNeg 0) ((K.set p1.toNatClampNeg f2).getD p1.toNatClampNeg 0) then y1 else (if dle ((K.set p1.toNatClampNeg f2).getD y0.toNatClampNeg 0) ((K.set p1.toNatClampNeg f2).getD p1.toNatClampNeg 0) then p1 else y0)) y2 (if dle ((K.set p1.toNatClampNeg f2).getD y1.toNatClampNeg 0) ((K.set p1.toNatClampNeg f2).getD p1.toNatClampNeg 0) then p1 else (if dle ((K.set p1.toNatClampNeg f2).getD y0.toNatClampNeg 0) ((K.set p1.toNatClampNeg f2).getD p1.toNatClampNeg 0) then y1 else y1)) (if dle ((K.set p1.toNatClampNeg f2).getD y1.toNatClampNeg 0) ((K.set p1.toNatClampNeg f2).getD p1.toNatClampNeg 0) then (P.set p1.toNatClampNeg (3 : Int32)) else (if dle ((K.set p1.toNatClampNeg f2).getD y0.toNatClampNeg 0) ((K.set p1.toNatClampNeg f2).getD p1.toNatClampNeg 0) then ((P.set y1.toNatClampNeg (3 : Int32)).set p1.toNatClampNeg (1 : Int32)) else (((P.set y1.toNatClampNeg (3 : Int32)).set y0.toNatClampNeg (1 : Int32)).set p1.toNatClampNeg (0 : Int32)))) (K.set p1.toNatClampNeg f2)) ∧ (NNk (K.set p1.toNatClampNeg f2)) ∧ (∀ z : Int32, (0 ≤ z.toInt ∧ z.toInt < 4) → ¬ p1.toInt = z.toInt → pv P z = -1 → pv (if dle ((K.set p1.toNatClampNeg f2).getD y1.toNatClampNeg 0) ((K.set p1.toNatClampNeg f2).getD p1.toNatClampNeg 0) then (P.set p1.toNatClampNeg (3 : Int32)) else (if dle ((K.set p1.toNatClampNeg f2).getD y0.toNatClampNeg 0) ((K.set p1.toNatClampNeg f2).getD p1.toNatClampNeg 0) then ((P.set y1.toNatClampNeg (3 : Int32)).set p1.toNatClampNeg (1 : Int32)) else (((P.set y1.toNatClampNeg (3 : Int32)).set y0.toNatClampNeg (1 : Int32)).set p1.toNatClampNeg (0 : Int32)))) z = -1)
set_option maxRecDepth 65536 in
set_option maxHeartbeats 40000000 in
theorem rm4n3 (l : Launch) (Z : State) (a0 : Array Value) (hw : ∀ d ∈ tables_1, d.before a0 Z = true) (ws : List Jvm.Cond) (o0 : Addr) (p1 : Int32) (f2 : UInt64) (heap_o0 : Addr) (position_o0 : Addr) (key_o0 : Addr) (y0 : Int32) (y1 : Int32) (y2 : Int32) (y3 : Int32) (P : List Int32) (K : List UInt64) (h0 : Heap) (n0 : Nat) (Z0 : n0 ≤ h0.size) (E_o0 : Exa Z h0 o0 "com/example/cross_town/crosstown/solve/NodeHeap") (F_o0_heap : Fld Z h0 o0 "com/example/cross_town/crosstown/solve/NodeHeap" "heap" "[I" (.ref heap_o0)) (F_o0_position : Fld Z h0 o0 "com/example/cross_town/crosstown/solve/NodeHeap" "position" "[I" (.ref position_o0)) (F_o0_key : Fld Z h0 o0 "com/example/cross_town/crosstown/solve/NodeHeap" "key" "[D" (.ref key_o0)) (F_o0_size : Fld Z h0 o0 "com/example/cross_town/crosstown/solve/NodeHeap" "size" "I" (.int (3 : Int32))) (V_heap_o0 : Ary tr Z h0 heap_o0 .int [(.int y0), (.int y1), (.int y2), (.int y3)]) (V_position_o0 : Ary tr Z h0 position_o0 .int (P.map Value.int)) (hl_P : (P.length = 4)) (V_key_o0 : Ary tr Z h0 key_o0 .double (K.map Value.double)) (hl_K : (K.length = 4)) (nnk : (NNk K)) (nnf : (FP.Core.val64 f2 ≠ .nan)) (rg_p1 : (0 ≤ p1.toInt ∧ p1.toInt < 4)) (pv_p1 : (pv P p1 = -1)) (hp : (Hp3 y0 y1 y2 P K)) (g_o0 : n0 ≤ o0) (ne_heap_o0_o0 : heap_o0 ≠ o0) (ne_position_o0_o0 : position_o0 ≠ o0) (ne_key_o0_o0 : key_o0 ≠ o0) (g_key_o0 : n0 ≤ key_o0) (ne_heap_o0_key_o0 : heap_o0 ≠ key_o0) (ne_position_o0_key_o0 : position_o0 ≠ key_o0) (g_heap_o0 : n0 ≤ heap_o0) (ne_position_o0_heap_o0 : position_o0 ≠ heap_o0) (g_position_o0 : n0 ≤ position_o0) :
    MetFree l (⟨"com/example/cross_town/crosstown/solve/NodeHeap", "insertOrLower", "(ID)V"⟩ : MethodName) (head1 (Jvm.Cond.code (⟨"com/example/cross_town/crosstown/solve/NodeHeap", "insertOrLower", "(ID)V"⟩ : MethodName) prog_33_method_3_code 5 none :: ws) ({ frames := 2, cells := 0, slots := 0, locals := 30 } : Room)) (fun a U => a = #[(.ref o0), (.int p1), (.double f2)] ∧ Z.Warmed39 U.vm ∧ U.heap = h0) (fun _ _ _ _ _ => True) (fun _ U o U' => ∃ v L, o = .returned v ∧ Q4n3 Z o0 p1 f2 heap_o0 position_o0 key_o0 y0 y1 y2 y3 P K h0 n0 v U'.heap L ∧ FrameEnd U o U' L ({ frames := 2, cells := 0, slots := 0, locals := 30 } : Room).cells ({ frames := 2, cells := 0, slots := 0, locals := 30 } : Room).slots) := by
  refine MetFree.of_bodySF (plainFor_of_name pn_com_example_cross_town_crosstown_solve_NodeHeap) hisR ?_
  intro p e s m args below meth c s₁ Bd hml0 hP hK
  obtain ⟨rfl, hZ, hh⟩ := hP
  have hx := Bd.exec
  have hby := Bd.bytes
  have hml : c.maxLocals = 5 := hml0
  have hown : s.vm.findClass "com/example/cross_town/crosstown/solve/NodeHeap" = some m.cls := findClass_of_methodNamed Bd.named
  have hnm := (name_of_methodNamed Bd.named Bd.method).1
  have X0 : Stand p l e ({ frames := 2, cells := 0, slots := 0, locals := 30 } : Room) s m #[(.ref o0), (.int p1), (.double f2)] below meth c s₁ [] 0 0 := Stand.of_body Bd
  have eH0 : s₁.heap = h0 := by rw [← hh, Bd.state]; rfl
  have N0 := Fr.nil n0
  have K0 := Keep.refl h0 [o0, key_o0, heap_o0, position_o0]
  show Gt p.tables e below (fun o U' => ∃ v L, o = .returned v ∧ Q4n3 Z o0 p1 f2 heap_o0 position_o0 key_o0 y0 y1 y2 y3 P K h0 n0 v U'.heap L ∧ FrameEnd s o U' L ({ frames := 2, cells := 0, slots := 0, locals := 30 } : Room).cells ({ frames := 2, cells := 0, slots := 0, locals := 30 } : Room).slots) _
  refine own_cast (ef4n3 m o0 p1 f2) ?_
  obtain ⟨rg_y0, rg_y1, rg_y2, pv_y0, pv_y1, pv_y2, ord1, ord2⟩ := hp
  have d_y0_y1 : ¬ y0.toInt = y1.toInt := own_pne pv_y0 pv_y1 (by decide)
  have d_y0_y2 : ¬ y0.toInt = y2.toInt := own_pne pv_y0 pv_y2 (by decide)
  have d_y0_p1 : ¬ y0.toInt = p1.toInt := own_pne pv_y0 pv_p1 (by decide)
  have d_y1_y0 : ¬ y1.toInt = y0.toInt := own_pne pv_y1 pv_y0 (by decide)
  have d_y1_y2 : ¬ y1.toInt = y2.toInt := own_pne pv_y1 pv_y2 (by decide)
  have d_y1_p1 : ¬ y1.toInt = p1.toInt := own_pne pv_y1 pv_p1 (by decide)
  have d_y2_y0 : ¬ y2.toInt = y0.toInt := own_pne pv_y2 pv_y0 (by decide)
  have d_y2_y1 : ¬ y2.toInt = y1.toInt := own_pne pv_y2 pv_y1 (by decide)
  have d_y2_p1 : ¬ y2.toInt = p1.toInt := own_pne pv_y2 pv_p1 (by decide)
  have d_p1_y0 : ¬ p1.toInt = y0.toInt := own_pne pv_p1 pv_y0 (by decide)
  have d_p1_y1 : ¬ p1.toInt = y1.toInt := own_pne pv_p1 pv_y1 (by decide)
  have d_p1_y2 : ¬ p1.toInt = y2.toInt := own_pne pv_p1 pv_y2 (by decide)
  refine own_aloadN X0 hx hby rfl rfl d4_0 (pc' := 1) rfl ?_
  refine own_getF X0 hx hby hZ hown (host := "") (Or.inl (hw _ (List.mem_of_getElem? (i := 13) rfl))) Via.refl eH0 F_o0_position d4_1 (pc' := 4) rfl (fun T1 X1 eH1 => ?_)
  refine own_iloadN X1 hx hby rfl d4_4 (pc' := 5) rfl ?_
  refine own_iaload X1 hx hby hZ eH1 V_position_o0 (own_rg0 rg_p1) (v := (.int (P.getD p1.toNatClampNeg 0))) (own_lget (own_rgl rg_p1 hl_P)) d4_5 (pc' := 6) rfl ?_
  refine own_istore X1 hx hby (L' := #[.val (.ref o0), .val (.int p1), .val (.double f2), .second, .val (.int (P.getD p1.toNatClampNeg 0))]) rfl d4_6 (pc' := 8) rfl ?_
  refine own_iload X1 hx hby rfl d4_8 (pc' := 10) rfl ?_
  refine own_iconst X1 hx hby (v := (-1 : Int32)) (by decide) d4_10 (pc' := 11) rfl ?_
  have hk2 : (P.getD p1.toNatClampNeg 0) = (-1 : Int32) := own_pm pv_p1 (by decide)
  refine own_icF X1 hx hby d4_11 (own_ic_ne_p hk2) (pc' := 14) rfl ?_
  refine own_aloadN X1 hx hby rfl rfl d4_14 (pc' := 15) rfl ?_
  refine own_getF X1 hx hby hZ hown (host := "") (Or.inl (hw _ (List.mem_of_getElem? (i := 27) rfl))) Via.refl eH1 F_o0_size d4_15 (pc' := 18) rfl (fun T3 X3 eH3 => ?_)
  refine own_istore X3 hx hby (L' := #[.val (.ref o0), .val (.int p1), .val (.double f2), .second, .val (.int (3 : Int32))]) rfl d4_18 (pc' := 20) rfl ?_
  refine own_aloadN X3 hx hby rfl rfl d4_20 (pc' := 21) rfl ?_
  refine own_dup X3 hx hby rfl d4_21 (pc' := 22) rfl ?_
  refine own_getF X3 hx hby hZ hown (host := "") (Or.inl (hw _ (List.mem_of_getElem? (i := 27) rfl))) Via.refl eH3 F_o0_size d4_22 (pc' := 25) rfl (fun T4 X4 eH4 => ?_)
  refine own_iconst X4 hx hby (v := (1 : Int32)) (by decide) d4_25 (pc' := 26) rfl ?_
  refine own_iadd X4 hx hby (v := (4 : Int32)) (by decide) d4_26 (pc' := 27) rfl ?_
  refine own_putF X4 hx hby hZ hown (host := "") (Or.inl (hw _ (List.mem_of_getElem? (i := 27) rfl))) Via.refl eH4 F_o0_size E_o0 (Or.inl (hw _ (List.mem_of_getElem? (i := 28) rfl))) (hw _ (List.mem_of_getElem? (i := 2) rfl)) (ty := .int) (by decide) rfl rfl d4_27 (pc' := 30) rfl (fun T5 h5 X5 eH5 W5 => ?_)
  replace E_o0 := E_o0.wr W5
  replace F_o0_heap := F_o0_heap.other W5 (Or.inr (slot_ne (Or.inr (hw _ (List.mem_of_getElem? (i := 12) rfl))) (Or.inl (hw _ (List.mem_of_getElem? (i := 28) rfl))) (by decide) (t := (.array .int)) (t' := .int) (by decide) (by decide)))
  replace F_o0_position := F_o0_position.other W5 (Or.inr (slot_ne (Or.inr (hw _ (List.mem_of_getElem? (i := 14) rfl))) (Or.inl (hw _ (List.mem_of_getElem? (i := 28) rfl))) (by decide) (t := (.array .int)) (t' := .int) (by decide) (by decide)))
  replace F_o0_key := F_o0_key.other W5 (Or.inr (slot_ne (Or.inr (hw _ (List.mem_of_getElem? (i := 17) rfl))) (Or.inl (hw _ (List.mem_of_getElem? (i := 28) rfl))) (by decide) (t := (.array .double)) (t' := .int) (by decide) (by decide)))
  replace F_o0_size := F_o0_size.same W5
  replace V_heap_o0 := V_heap_o0.other W5 ne_heap_o0_o0
  replace V_position_o0 := V_position_o0.other W5 ne_position_o0_o0
  replace V_key_o0 := V_key_o0.other W5 ne_key_o0_o0
  have N5 := Fr.snoc X5 N0 g_o0
  replace K0 := K0.wr W5 (Or.inl (by simp))
  replace Z0 := Nat.le_trans Z0 (Nat.le_of_eq W5.size.symm)
  refine own_aloadN X5 hx hby rfl rfl d4_30 (pc' := 31) rfl ?_
  refine own_getF X5 hx hby hZ hown (host := "") (Or.inl (hw _ (List.mem_of_getElem? (i := 16) rfl))) Via.refl eH5 F_o0_key d4_31 (pc' := 34) rfl (fun T6 X6 eH6 => ?_)
  refine own_iloadN X6 hx hby rfl d4_34 (pc' := 35) rfl ?_
  refine own_dloadN X6 hx hby rfl d4_35 (pc' := 36) rfl ?_
  refine own_dastore X6 hx hby hZ eH6 V_key_o0 (own_rg0 rg_p1) (n := p1.toNatClampNeg) rfl (by rw [List.length_map]; exact own_rgl rg_p1 hl_K) d4_36 (pc' := 37) rfl (fun T7 h7 X7 eH7 W7 => ?_)
  replace E_o0 := E_o0.wr W7
  replace F_o0_heap := F_o0_heap.other W7 (Or.inl (Ne.symm ne_key_o0_o0))
  replace F_o0_position := F_o0_position.other W7 (Or.inl (Ne.symm ne_key_o0_o0))
  replace F_o0_key := F_o0_key.other W7 (Or.inl (Ne.symm ne_key_o0_o0))
  replace F_o0_size := F_o0_size.other W7 (Or.inl (Ne.symm ne_key_o0_o0))
  replace V_heap_o0 := V_heap_o0.other W7 ne_heap_o0_key_o0
  replace V_position_o0 := V_position_o0.other W7 ne_position_o0_key_o0
  have N7 := Fr.snoc X7 N5 g_key_o0
  replace K0 := K0.wr W7 (Or.inl (by simp))
  replace Z0 := Nat.le_trans Z0 (Nat.le_of_eq W7.size.symm)
  have hl8 : (K.set p1.toNatClampNeg f2).length = 4 := by rw [List.length_set]; exact hl_K
  replace V_key_o0 : Ary tr Z h7 key_o0 .double ((K.set p1.toNatClampNeg f2).map Value.double) := by rw [List.map_set]; exact V_key_o0.set W7
  refine own_aloadN X7 hx hby rfl rfl d4_37 (pc' := 38) rfl ?_
  refine own_iload X7 hx hby rfl d4_38 (pc' := 40) rfl ?_
  refine own_iloadN X7 hx hby rfl d4_40 (pc' := 41) rfl ?_
  refine own_private X7 hx hby hZ (y := (⟨"com/example/cross_town/crosstown/solve/NodeHeap", "siftUp", "(II)V"⟩ : MethodName)) (rest := []) hown (hw _ (List.mem_of_getElem? (i := 29) rfl)) (hw _ (List.mem_of_getElem? (i := 30) rfl)) (hw _ (List.mem_of_getElem? (i := 2) rfl)) (hw _ (List.mem_of_getElem? (i := 31) rfl)) (hw _ (List.mem_of_getElem? (i := 32) rfl)) (hw _ (List.mem_of_getElem? (i := 3) rfl)) (by decide) (rm5n3 l Z a0 hw [] o0 p1 heap_o0 position_o0 key_o0 y0 y1 y2 y3 P (K.set p1.toNatClampNeg f2) h7 n0 Z0 E_o0 F_o0_heap F_o0_position F_o0_key V_heap_o0 V_position_o0 (by first | assumption | rfl | (simp only [List.length_set]; first | assumption | rfl)) V_key_o0 (by first | assumption | rfl | (simp only [List.length_set]; first | assumption | rfl)) rg_p1 (own_nnk nnk nnf (own_rgl rg_p1 hl_K)) pv_p1 rg_y0 pv_y0 rg_y1 pv_y1 rg_y2 pv_y2 (by rw [(show kv (K.set p1.toNatClampNeg f2) y0 = kv K y0 from by rw [own_kvs hl_K rg_p1 rg_y0, if_neg d_p1_y0]), (show kv (K.set p1.toNatClampNeg f2) y1 = kv K y1 from by rw [own_kvs hl_K rg_p1 rg_y1, if_neg d_p1_y1])]; omega) (by rw [(show kv (K.set p1.toNatClampNeg f2) y0 = kv K y0 from by rw [own_kvs hl_K rg_p1 rg_y0, if_neg d_p1_y0]), (show kv (K.set p1.toNatClampNeg f2) y2 = kv K y2 from by rw [own_kvs hl_K rg_p1 rg_y2, if_neg d_p1_y2])]; omega) g_heap_o0 (Ne.symm ne_heap_o0_o0) ne_position_o0_heap_o0 g_position_o0 (Ne.symm ne_position_o0_o0) (Ne.symm ne_position_o0_key_o0) (Ne.symm ne_heap_o0_key_o0)) eH7 (by rw [hml]; rfl) (a := o0) E_o0 (argsL := [(.int (3 : Int32)), (.int p1)]) rfl (lenOf pd_1 rfl) rfl d4_41 (pc' := 44) rfl (by decide) (W := 0) (Nat.le_of_eq rfl) (by decide) (by decide) (by decide) (fun T9 h9 Lc9 v9r X9 eH9 hQ9 => ?_)
  obtain ⟨rfl, Nq9, Kq9, gq9_0, gq9_1, gq9_2, gq9_3⟩ := hQ9
  have N9 := Fr.app N7 Nq9
  replace E_o0 := E_o0.keep Kq9
  replace F_o0_heap := F_o0_heap.keep Kq9 (ninS (Ne.symm ne_position_o0_o0) (ninS (Ne.symm ne_heap_o0_o0) nin0))
  replace F_o0_position := F_o0_position.keep Kq9 (ninS (Ne.symm ne_position_o0_o0) (ninS (Ne.symm ne_heap_o0_o0) nin0))
  replace F_o0_key := F_o0_key.keep Kq9 (ninS (Ne.symm ne_position_o0_o0) (ninS (Ne.symm ne_heap_o0_o0) nin0))
  replace F_o0_size := F_o0_size.keep Kq9 (ninS (Ne.symm ne_position_o0_o0) (ninS (Ne.symm ne_heap_o0_o0) nin0))
  replace V_key_o0 := V_key_o0.keep Kq9 (ninS (Ne.symm ne_position_o0_key_o0) (ninS (Ne.symm ne_heap_o0_key_o0) nin0))
  replace K0 := K0.trans Kq9 (allS (Or.inl (by simp)) (allS (Or.inl (by simp)) all0))
  have hl10 : (if dle ((K.set p1.toNatClampNeg f2).getD y1.toNatClampNeg 0) ((K.set p1.toNatClampNeg f2).getD p1.toNatClampNeg 0) then (P.set p1.toNatClampNeg (3 : Int32)) else (if dle ((K.set p1.toNatClampNeg f2).getD y0.toNatClampNeg 0) ((K.set p1.toNatClampNeg f2).getD p1.toNatClampNeg 0) then ((P.set y1.toNatClampNeg (3 : Int32)).set p1.toNatClampNeg (1 : Int32)) else (((P.set y1.toNatClampNeg (3 : Int32)).set y0.toNatClampNeg (1 : Int32)).set p1.toNatClampNeg (0 : Int32)))).length = 4 := by (repeat' split) <;> (simp only [List.length_set]; first | assumption | rfl)
  have V_position_o0 := gq9_0
  have V_heap_o0 := gq9_1
  have hp_9 : Hp4 (if dle ((K.set p1.toNatClampNeg f2).getD y1.toNatClampNeg 0) ((K.set p1.toNatClampNeg f2).getD p1.toNatClampNeg 0) then y0 else (if dle ((K.set p1.toNatClampNeg f2).getD y0.toNatClampNeg 0) ((K.set p1.toNatClampNeg f2).getD p1.toNatClampNeg 0) then y0 else p1)) (if dle ((K.set p1.toNatClampNeg f2).getD y1.toNatClampNeg 0) ((K.set p1.toNatClampNeg f2).getD p1.toNatClampNeg 0) then y1 else (if dle ((K.set p1.toNatClampNeg f2).getD y0.toNatClampNeg 0) ((K.set p1.toNatClampNeg f2).getD p1.toNatClampNeg 0) then p1 else y0)) y2 (if dle ((K.set p1.toNatClampNeg f2).getD y1.toNatClampNeg 0) ((K.set p1.toNatClampNeg f2).getD p1.toNatClampNeg 0) then p1 else (if dle ((K.set p1.toNatClampNeg f2).getD y0.toNatClampNeg 0) ((K.set p1.toNatClampNeg f2).getD p1.toNatClampNeg 0) then y1 else y1)) (if dle ((K.set p1.toNatClampNeg f2).getD y1.toNatClampNeg 0) ((K.set p1.toNatClampNeg f2).getD p1.toNatClampNeg 0) then (P.set p1.toNatClampNeg (3 : Int32)) else (if dle ((K.set p1.toNatClampNeg f2).getD y0.toNatClampNeg 0) ((K.set p1.toNatClampNeg f2).getD p1.toNatClampNeg 0) then ((P.set y1.toNatClampNeg (3 : Int32)).set p1.toNatClampNeg (1 : Int32)) else (((P.set y1.toNatClampNeg (3 : Int32)).set y0.toNatClampNeg (1 : Int32)).set p1.toNatClampNeg (0 : Int32)))) (K.set p1.toNatClampNeg f2) := gq9_2
  have ab_9 : ∀ z : Int32, (0 ≤ z.toInt ∧ z.toInt < 4) → ¬ p1.toInt = z.toInt → pv P z = -1 → pv (if dle ((K.set p1.toNatClampNeg f2).getD y1.toNatClampNeg 0) ((K.set p1.toNatClampNeg f2).getD p1.toNatClampNeg 0) then (P.set p1.toNatClampNeg (3 : Int32)) else (if dle ((K.set p1.toNatClampNeg f2).getD y0.toNatClampNeg 0) ((K.set p1.toNatClampNeg f2).getD p1.toNatClampNeg 0) then ((P.set y1.toNatClampNeg (3 : Int32)).set p1.toNatClampNeg (1 : Int32)) else (((P.set y1.toNatClampNeg (3 : Int32)).set y0.toNatClampNeg (1 : Int32)).set p1.toNatClampNeg (0 : Int32)))) z = -1 := gq9_3
  replace Z0 := Nat.le_trans Z0 Kq9.1
  exact own_retV X9 hx hby Bd.notSynchronized Bd.returns d4_44 (by decide) (by decide) eH9 ⟨rfl, N9, K0, E_o0, F_o0_heap, F_o0_position, F_o0_key, F_o0_size, V_key_o0, V_heap_o0, V_position_o0, hp_9, (own_nnk nnk nnf (own_rgl rg_p1 hl_K)), ab_9⟩
theorem ef91 (m : MethodId) (x0 : Addr) : entryFrame m #[(.ref x0)] 2 = mkF m 0 #[.val (.ref x0), .unset] [] := by first | (simp [entryFrame, mkF, argsToLocals, Value.category]; done) | rfl
def Q91 (Z : State) (o0 : Addr) (heap_o0 : Addr) (position_o0 : Addr) (key_o0 : Addr) (y0 : Int32) (y1 : Int32) (y2 : Int32) (y3 : Int32) (P : List Int32) (K : List UInt64) (h0 : Heap) (n0 : Nat) (v : Option Value) (h : Heap) (L : List Loc) : Prop := v = some (.int y0) ∧ Fr n0 L ∧ Keep h0 h [position_o0, o0] ∧ Ary tr Z h position_o0 .int ((P.set y0.toNatClampNeg (-1 : Int32)).map Value.int) ∧ Exa Z h o0 "com/example/cross_town/crosstown/solve/NodeHeap" ∧ Fld Z h o0 "com/example/cross_town/crosstown/solve/NodeHeap" "heap" "[I" (.ref heap_o0) ∧ Fld Z h o0 "com/example/cross_town/crosstown/solve/NodeHeap" "position" "[I" (.ref position_o0) ∧ Fld Z h o0 "com/example/cross_town/crosstown/solve/NodeHeap" "key" "[D" (.ref key_o0) ∧ Fld Z h o0 "com/example/cross_town/crosstown/solve/NodeHeap" "size" "I" (.int (0 : Int32)) ∧ (∀ z : Int32, (0 ≤ z.toInt ∧ z.toInt < 4) → pv P z = -1 → pv (P.set y0.toNatClampNeg (-1 : Int32)) z = -1) ∧ (pv (P.set y0.toNatClampNeg (-1 : Int32)) y0 = -1) ∧ (0 ≤ y0.toInt ∧ y0.toInt < 4)
set_option maxRecDepth 65536 in
set_option maxHeartbeats 40000000 in
theorem rm91 (l : Launch) (Z : State) (a0 : Array Value) (hw : ∀ d ∈ tables_1, d.before a0 Z = true) (ws : List Jvm.Cond) (o0 : Addr) (heap_o0 : Addr) (position_o0 : Addr) (key_o0 : Addr) (y0 : Int32) (y1 : Int32) (y2 : Int32) (y3 : Int32) (P : List Int32) (K : List UInt64) (h0 : Heap) (n0 : Nat) (Z0 : n0 ≤ h0.size) (E_o0 : Exa Z h0 o0 "com/example/cross_town/crosstown/solve/NodeHeap") (F_o0_heap : Fld Z h0 o0 "com/example/cross_town/crosstown/solve/NodeHeap" "heap" "[I" (.ref heap_o0)) (F_o0_position : Fld Z h0 o0 "com/example/cross_town/crosstown/solve/NodeHeap" "position" "[I" (.ref position_o0)) (F_o0_key : Fld Z h0 o0 "com/example/cross_town/crosstown/solve/NodeHeap" "key" "[D" (.ref key_o0)) (V_heap_o0 : Ary tr Z h0 heap_o0 .int [(.int y0), (.int y1), (.int y2), (.int y3)]) (V_position_o0 : Ary tr Z h0 position_o0 .int (P.map Value.int)) (hl_P : (P.length = 4)) (V_key_o0 : Ary tr Z h0 key_o0 .double (K.map Value.double)) (hl_K : (K.length = 4)) (F_o0_size : Fld Z h0 o0 "com/example/cross_town/crosstown/solve/NodeHeap" "size" "I" (.int (1 : Int32))) (nnk : (NNk K)) (hp : (Hp1 y0 P K)) (g_position_o0 : n0 ≤ position_o0) (ne_o0_position_o0 : o0 ≠ position_o0) (ne_heap_o0_position_o0 : heap_o0 ≠ position_o0) (ne_key_o0_position_o0 : key_o0 ≠ position_o0) (g_o0 : n0 ≤ o0) (ne_heap_o0_o0 : heap_o0 ≠ o0) (ne_key_o0_o0 : key_o0 ≠ o0) :
    MetFree l (⟨"com/example/cross_town/crosstown/solve/NodeHeap", "poll", "()I"⟩ : MethodName) (head1 (Jvm.Cond.code (⟨"com/example/cross_town/crosstown/solve/NodeHeap", "poll", "()I"⟩ : MethodName) prog_33_method_4_code 2 (some .int) :: ws) ({ frames := 0, cells := 0, slots := 0, locals := 0 } : Room)) (fun a U => a = #[(.ref o0)] ∧ Z.Warmed39 U.vm ∧ U.heap = h0) (fun _ _ _ _ _ => True) (fun _ U o U' => ∃ v L, o = .returned v ∧ Q91 Z o0 heap_o0 position_o0 key_o0 y0 y1 y2 y3 P K h0 n0 v U'.heap L ∧ FrameEnd U o U' L ({ frames := 0, cells := 0, slots := 0, locals := 0 } : Room).cells ({ frames := 0, cells := 0, slots := 0, locals := 0 } : Room).slots) := by
  refine MetFree.of_bodySF (plainFor_of_name pn_com_example_cross_town_crosstown_solve_NodeHeap) hisR ?_
  intro p e s m args below meth c s₁ Bd hml0 hP hK
  obtain ⟨rfl, hZ, hh⟩ := hP
  have hx := Bd.exec
  have hby := Bd.bytes
  have hml : c.maxLocals = 2 := hml0
  have hown : s.vm.findClass "com/example/cross_town/crosstown/solve/NodeHeap" = some m.cls := findClass_of_methodNamed Bd.named
  have hnm := (name_of_methodNamed Bd.named Bd.method).1
  have X0 : Stand p l e ({ frames := 0, cells := 0, slots := 0, locals := 0 } : Room) s m #[(.ref o0)] below meth c s₁ [] 0 0 := Stand.of_body Bd
  have eH0 : s₁.heap = h0 := by rw [← hh, Bd.state]; rfl
  have N0 := Fr.nil n0
  have K0 := Keep.refl h0 [position_o0, o0]
  show Gt p.tables e below (fun o U' => ∃ v L, o = .returned v ∧ Q91 Z o0 heap_o0 position_o0 key_o0 y0 y1 y2 y3 P K h0 n0 v U'.heap L ∧ FrameEnd s o U' L ({ frames := 0, cells := 0, slots := 0, locals := 0 } : Room).cells ({ frames := 0, cells := 0, slots := 0, locals := 0 } : Room).slots) _
  refine own_cast (ef91 m o0) ?_
  obtain ⟨rg_y0, pv_y0⟩ := hp
  refine own_aloadN X0 hx hby rfl rfl d9_0 (pc' := 1) rfl ?_
  refine own_getF X0 hx hby hZ hown (host := "") (Or.inl (hw _ (List.mem_of_getElem? (i := 11) rfl))) Via.refl eH0 F_o0_heap d9_1 (pc' := 4) rfl (fun T1 X1 eH1 => ?_)
  refine own_iconst X1 hx hby (v := (0 : Int32)) (by decide) d9_4 (pc' := 5) rfl ?_
  refine own_iaload X1 hx hby hZ eH1 V_heap_o0 (by decide) (v := (.int y0)) rfl d9_5 (pc' := 6) rfl ?_
  refine own_istoreN X1 hx hby (L' := #[.val (.ref o0), .val (.int y0)]) rfl d9_6 (pc' := 7) rfl ?_
  refine own_aloadN X1 hx hby rfl rfl d9_7 (pc' := 8) rfl ?_
  refine own_getF X1 hx hby hZ hown (host := "") (Or.inl (hw _ (List.mem_of_getElem? (i := 13) rfl))) Via.refl eH1 F_o0_position d9_8 (pc' := 11) rfl (fun T2 X2 eH2 => ?_)
  refine own_iloadN X2 hx hby rfl d9_11 (pc' := 12) rfl ?_
  refine own_iconst X2 hx hby (v := (-1 : Int32)) (by decide) d9_12 (pc' := 13) rfl ?_
  refine own_iastore X2 hx hby hZ eH2 V_position_o0 (own_rg0 rg_y0) (n := y0.toNatClampNeg) rfl (by rw [List.length_map]; exact own_rgl rg_y0 hl_P) d9_13 (pc' := 14) rfl (fun T3 h3 X3 eH3 W3 => ?_)
  replace E_o0 := E_o0.wr W3
  replace F_o0_heap := F_o0_heap.other W3 (Or.inl ne_o0_position_o0)
  replace F_o0_position := F_o0_position.other W3 (Or.inl ne_o0_position_o0)
  replace F_o0_key := F_o0_key.other W3 (Or.inl ne_o0_position_o0)
  replace F_o0_size := F_o0_size.other W3 (Or.inl ne_o0_position_o0)
  replace V_heap_o0 := V_heap_o0.other W3 ne_heap_o0_position_o0
  replace V_key_o0 := V_key_o0.other W3 ne_key_o0_position_o0
  have N3 := Fr.snoc X3 N0 g_position_o0
  replace K0 := K0.wr W3 (Or.inl (by simp))
  replace Z0 := Nat.le_trans Z0 (Nat.le_of_eq W3.size.symm)
  have hl4 : (P.set y0.toNatClampNeg (-1 : Int32)).length = 4 := by rw [List.length_set]; exact hl_P
  replace V_position_o0 : Ary tr Z h3 position_o0 .int ((P.set y0.toNatClampNeg (-1 : Int32)).map Value.int) := by rw [List.map_set]; exact V_position_o0.set W3
  refine own_aloadN X3 hx hby rfl rfl d9_14 (pc' := 15) rfl ?_
  refine own_dup X3 hx hby rfl d9_15 (pc' := 16) rfl ?_
  refine own_getF X3 hx hby hZ hown (host := "") (Or.inl (hw _ (List.mem_of_getElem? (i := 27) rfl))) Via.refl eH3 F_o0_size d9_16 (pc' := 19) rfl (fun T5 X5 eH5 => ?_)
  refine own_iconst X5 hx hby (v := (1 : Int32)) (by decide) d9_19 (pc' := 20) rfl ?_
  refine own_isub X5 hx hby (v := (0 : Int32)) (by decide) d9_20 (pc' := 21) rfl ?_
  refine own_putF X5 hx hby hZ hown (host := "") (Or.inl (hw _ (List.mem_of_getElem? (i := 27) rfl))) Via.refl eH5 F_o0_size E_o0 (Or.inl (hw _ (List.mem_of_getElem? (i := 28) rfl))) (hw _ (List.mem_of_getElem? (i := 2) rfl)) (ty := .int) (by decide) rfl rfl d9_21 (pc' := 24) rfl (fun T6 h6 X6 eH6 W6 => ?_)
  replace E_o0 := E_o0.wr W6
  replace F_o0_heap := F_o0_heap.other W6 (Or.inr (slot_ne (Or.inr (hw _ (List.mem_of_getElem? (i := 12) rfl))) (Or.inl (hw _ (List.mem_of_getElem? (i := 28) rfl))) (by decide) (t := (.array .int)) (t' := .int) (by decide) (by decide)))
  replace F_o0_position := F_o0_position.other W6 (Or.inr (slot_ne (Or.inr (hw _ (List.mem_of_getElem? (i := 14) rfl))) (Or.inl (hw _ (List.mem_of_getElem? (i := 28) rfl))) (by decide) (t := (.array .int)) (t' := .int) (by decide) (by decide)))
  replace F_o0_key := F_o0_key.other W6 (Or.inr (slot_ne (Or.inr (hw _ (List.mem_of_getElem? (i := 17) rfl))) (Or.inl (hw _ (List.mem_of_getElem? (i := 28) rfl))) (by decide) (t := (.array .double)) (t' := .int) (by decide) (by decide)))
  replace F_o0_size := F_o0_size.same W6
  replace V_heap_o0 := V_heap_o0.other W6 ne_heap_o0_o0
  replace V_position_o0 := V_position_o0.other W6 (Ne.symm ne_o0_position_o0)
  replace V_key_o0 := V_key_o0.other W6 ne_key_o0_o0
  have N6 := Fr.snoc X6 N3 g_o0
  replace K0 := K0.wr W6 (Or.inl (by simp))
  replace Z0 := Nat.le_trans Z0 (Nat.le_of_eq W6.size.symm)
  refine own_aloadN X6 hx hby rfl rfl d9_24 (pc' := 25) rfl ?_
  refine own_getF X6 hx hby hZ hown (host := "") (Or.inl (hw _ (List.mem_of_getElem? (i := 27) rfl))) Via.refl eH6 F_o0_size d9_25 (pc' := 28) rfl (fun T7 X7 eH7 => ?_)
  refine own_ifT X7 hx hby d9_28 (by decide) (by decide) (pc' := 45) (by decide) ?_
  refine own_iloadN X7 hx hby rfl d9_45 (pc' := 46) rfl ?_
  have HA0 : ∀ z : Int32, (0 ≤ z.toInt ∧ z.toInt < 4) → pv P z = -1 → pv (P.set y0.toNatClampNeg (-1 : Int32)) z = -1 := fun z rgz hz => (by rw [own_pvs hl_P rg_y0 rgz, if_neg (own_pne pv_y0 hz (by decide))]; exact hz)
  have HZ0 : pv (P.set y0.toNatClampNeg (-1 : Int32)) y0 = -1 := (by rw [own_pvs hl_P rg_y0 rg_y0, if_pos rfl]; first | done | decide)
  exact own_retI X7 hx hby Bd.notSynchronized Bd.returns d9_46 (by decide) (by decide) eH7 ⟨rfl, N6, K0, V_position_o0, E_o0, F_o0_heap, F_o0_position, F_o0_key, F_o0_size, HA0, HZ0, rg_y0⟩
theorem ef92 (m : MethodId) (x0 : Addr) : entryFrame m #[(.ref x0)] 2 = mkF m 0 #[.val (.ref x0), .unset] [] := by first | (simp [entryFrame, mkF, argsToLocals, Value.category]; done) | rfl
def Q92 (Z : State) (o0 : Addr) (heap_o0 : Addr) (position_o0 : Addr) (key_o0 : Addr) (y0 : Int32) (y1 : Int32) (y2 : Int32) (y3 : Int32) (P : List Int32) (K : List UInt64) (h0 : Heap) (n0 : Nat) (v : Option Value) (h : Heap) (L : List Loc) : Prop := v = some (.int y0) ∧ Fr n0 L ∧ Keep h0 h [position_o0, o0, heap_o0] ∧ Ary tr Z h position_o0 .int (((P.set y0.toNatClampNeg (-1 : Int32)).set y1.toNatClampNeg (0 : Int32)).map Value.int) ∧ Exa Z h o0 "com/example/cross_town/crosstown/solve/NodeHeap" ∧ Fld Z h o0 "com/example/cross_town/crosstown/solve/NodeHeap" "heap" "[I" (.ref heap_o0) ∧ Fld Z h o0 "com/example/cross_town/crosstown/solve/NodeHeap" "position" "[I" (.ref position_o0) ∧ Fld Z h o0 "com/example/cross_town/crosstown/solve/NodeHeap" "key" "[D" (.ref key_o0) ∧ Fld Z h o0 "com/example/cross_town/crosstown/solve/NodeHeap" "size" "I" (.int (1 : Int32)) ∧ Ary tr Z h heap_o0 .int [(.int y1), (.int y1), (.int y2), (.int y3)] ∧ (Hp1 y1 ((P.set y0.toNatClampNeg (-1 : Int32)).set y1.toNatClampNeg (0 : Int32)) K) ∧ (∀ z : Int32, (0 ≤ z.toInt ∧ z.toInt < 4) → pv P z = -1 → pv ((P.set y0.toNatClampNeg (-1 : Int32)).set y1.toNatClampNeg (0 : Int32)) z = -1) ∧ (pv ((P.set y0.toNatClampNeg (-1 : Int32)).set y1.toNatClampNeg (0 : Int32)) y0 = -1) ∧ (0 ≤ y0.toInt ∧ y0.toInt < 4) ∧ (kv K y0 ≤ kv K y1)
set_option maxRecDepth 65536 in
set_option maxHeartbeats 40000000 in
theorem rm92 (l : Launch) (Z : State) (a0 : Array Value) (hw : ∀ d ∈ tables_1, d.before a0 Z = true) (ws : List Jvm.Cond) (o0 : Addr) (heap_o0 : Addr) (position_o0 : Addr) (key_o0 : Addr) (y0 : Int32) (y1 : Int32) (y2 : Int32) (y3 : Int32) (P : List Int32) (K : List UInt64) (h0 : Heap) (n0 : Nat) (Z0 : n0 ≤ h0.size) (E_o0 : Exa Z h0 o0 "com/example/cross_town/crosstown/solve/NodeHeap") (F_o0_heap : Fld Z h0 o0 "com/example/cross_town/crosstown/solve/NodeHeap" "heap" "[I" (.ref heap_o0)) (F_o0_position : Fld Z h0 o0 "com/example/cross_town/crosstown/solve/NodeHeap" "position" "[I" (.ref position_o0)) (F_o0_key : Fld Z h0 o0 "com/example/cross_town/crosstown/solve/NodeHeap" "key" "[D" (.ref key_o0)) (V_heap_o0 : Ary tr Z h0 heap_o0 .int [(.int y0), (.int y1), (.int y2), (.int y3)]) (V_position_o0 : Ary tr Z h0 position_o0 .int (P.map Value.int)) (hl_P : (P.length = 4)) (V_key_o0 : Ary tr Z h0 key_o0 .double (K.map Value.double)) (hl_K : (K.length = 4)) (F_o0_size : Fld Z h0 o0 "com/example/cross_town/crosstown/solve/NodeHeap" "size" "I" (.int (2 : Int32))) (nnk : (NNk K)) (hp : (Hp2 y0 y1 P K)) (g_position_o0 : n0 ≤ position_o0) (ne_o0_position_o0 : o0 ≠ position_o0) (ne_heap_o0_position_o0 : heap_o0 ≠ position_o0) (ne_key_o0_position_o0 : key_o0 ≠ position_o0) (g_o0 : n0 ≤ o0) (ne_heap_o0_o0 : heap_o0 ≠ o0) (ne_key_o0_o0 : key_o0 ≠ o0) (g_heap_o0 : n0 ≤ heap_o0) (ne_key_o0_heap_o0 : key_o0 ≠ heap_o0) :
    MetFree l (⟨"com/example/cross_town/crosstown/solve/NodeHeap", "poll", "()I"⟩ : MethodName) (head1 (Jvm.Cond.code (⟨"com/example/cross_town/crosstown/solve/NodeHeap", "poll", "()I"⟩ : MethodName) prog_33_method_4_code 2 (some .int) :: ws) ({ frames := 2, cells := 0, slots := 0, locals := 30 } : Room)) (fun a U => a = #[(.ref o0)] ∧ Z.Warmed39 U.vm ∧ U.heap = h0) (fun _ _ _ _ _ => True) (fun _ U o U' => ∃ v L, o = .returned v ∧ Q92 Z o0 heap_o0 position_o0 key_o0 y0 y1 y2 y3 P K h0 n0 v U'.heap L ∧ FrameEnd U o U' L ({ frames := 2, cells := 0, slots := 0, locals := 30 } : Room).cells ({ frames := 2, cells := 0, slots := 0, locals := 30 } : Room).slots) := by
  refine MetFree.of_bodySF (plainFor_of_name pn_com_example_cross_town_crosstown_solve_NodeHeap) hisR ?_
  intro p e s m args below meth c s₁ Bd hml0 hP hK
  obtain ⟨rfl, hZ, hh⟩ := hP
  have hx := Bd.exec
  have hby := Bd.bytes
  have hml : c.maxLocals = 2 := hml0
  have hown : s.vm.findClass "com/example/cross_town/crosstown/solve/NodeHeap" = some m.cls := findClass_of_methodNamed Bd.named
  have hnm := (name_of_methodNamed Bd.named Bd.method).1
  have X0 : Stand p l e ({ frames := 2, cells := 0, slots := 0, locals := 30 } : Room) s m #[(.ref o0)] below meth c s₁ [] 0 0 := Stand.of_body Bd
  have eH0 : s₁.heap = h0 := by rw [← hh, Bd.state]; rfl
  have N0 := Fr.nil n0
  have K0 := Keep.refl h0 [position_o0, o0, heap_o0]
  show Gt p.tables e below (fun o U' => ∃ v L, o = .returned v ∧ Q92 Z o0 heap_o0 position_o0 key_o0 y0 y1 y2 y3 P K h0 n0 v U'.heap L ∧ FrameEnd s o U' L ({ frames := 2, cells := 0, slots := 0, locals := 30 } : Room).cells ({ frames := 2, cells := 0, slots := 0, locals := 30 } : Room).slots) _
  refine own_cast (ef92 m o0) ?_
  obtain ⟨rg_y0, rg_y1, pv_y0, pv_y1, ord1⟩ := hp
  have d_y0_y1 : ¬ y0.toInt = y1.toInt := own_pne pv_y0 pv_y1 (by decide)
  have d_y1_y0 : ¬ y1.toInt = y0.toInt := own_pne pv_y1 pv_y0 (by decide)
  refine own_aloadN X0 hx hby rfl rfl d9_0 (pc' := 1) rfl ?_
  refine own_getF X0 hx hby hZ hown (host := "") (Or.inl (hw _ (List.mem_of_getElem? (i := 11) rfl))) Via.refl eH0 F_o0_heap d9_1 (pc' := 4) rfl (fun T1 X1 eH1 => ?_)
  refine own_iconst X1 hx hby (v := (0 : Int32)) (by decide) d9_4 (pc' := 5) rfl ?_
  refine own_iaload X1 hx hby hZ eH1 V_heap_o0 (by decide) (v := (.int y0)) rfl d9_5 (pc' := 6) rfl ?_
  refine own_istoreN X1 hx hby (L' := #[.val (.ref o0), .val (.int y0)]) rfl d9_6 (pc' := 7) rfl ?_
  refine own_aloadN X1 hx hby rfl rfl d9_7 (pc' := 8) rfl ?_
  refine own_getF X1 hx hby hZ hown (host := "") (Or.inl (hw _ (List.mem_of_getElem? (i := 13) rfl))) Via.refl eH1 F_o0_position d9_8 (pc' := 11) rfl (fun T2 X2 eH2 => ?_)
  refine own_iloadN X2 hx hby rfl d9_11 (pc' := 12) rfl ?_
  refine own_iconst X2 hx hby (v := (-1 : Int32)) (by decide) d9_12 (pc' := 13) rfl ?_
  refine own_iastore X2 hx hby hZ eH2 V_position_o0 (own_rg0 rg_y0) (n := y0.toNatClampNeg) rfl (by rw [List.length_map]; exact own_rgl rg_y0 hl_P) d9_13 (pc' := 14) rfl (fun T3 h3 X3 eH3 W3 => ?_)
  replace E_o0 := E_o0.wr W3
  replace F_o0_heap := F_o0_heap.other W3 (Or.inl ne_o0_position_o0)
  replace F_o0_position := F_o0_position.other W3 (Or.inl ne_o0_position_o0)
  replace F_o0_key := F_o0_key.other W3 (Or.inl ne_o0_position_o0)
  replace F_o0_size := F_o0_size.other W3 (Or.inl ne_o0_position_o0)
  replace V_heap_o0 := V_heap_o0.other W3 ne_heap_o0_position_o0
  replace V_key_o0 := V_key_o0.other W3 ne_key_o0_position_o0
  have N3 := Fr.snoc X3 N0 g_position_o0
  replace K0 := K0.wr W3 (Or.inl (by simp))
  replace Z0 := Nat.le_trans Z0 (Nat.le_of_eq W3.size.symm)
  have hl4 : (P.set y0.toNatClampNeg (-1 : Int32)).length = 4 := by rw [List.length_set]; exact hl_P
  replace V_position_o0 : Ary tr Z h3 position_o0 .int ((P.set y0.toNatClampNeg (-1 : Int32)).map Value.int) := by rw [List.map_set]; exact V_position_o0.set W3
  refine own_aloadN X3 hx hby rfl rfl d9_14 (pc' := 15) rfl ?_
  refine own_dup X3 hx hby rfl d9_15 (pc' := 16) rfl ?_
  refine own_getF X3 hx hby hZ hown (host := "") (Or.inl (hw _ (List.mem_of_getElem? (i := 27) rfl))) Via.refl eH3 F_o0_size d9_16 (pc' := 19) rfl (fun T5 X5 eH5 => ?_)
  refine own_iconst X5 hx hby (v := (1 : Int32)) (by decide) d9_19 (pc' := 20) rfl ?_
  refine own_isub X5 hx hby (v := (1 : Int32)) (by decide) d9_20 (pc' := 21) rfl ?_
  refine own_putF X5 hx hby hZ hown (host := "") (Or.inl (hw _ (List.mem_of_getElem? (i := 27) rfl))) Via.refl eH5 F_o0_size E_o0 (Or.inl (hw _ (List.mem_of_getElem? (i := 28) rfl))) (hw _ (List.mem_of_getElem? (i := 2) rfl)) (ty := .int) (by decide) rfl rfl d9_21 (pc' := 24) rfl (fun T6 h6 X6 eH6 W6 => ?_)
  replace E_o0 := E_o0.wr W6
  replace F_o0_heap := F_o0_heap.other W6 (Or.inr (slot_ne (Or.inr (hw _ (List.mem_of_getElem? (i := 12) rfl))) (Or.inl (hw _ (List.mem_of_getElem? (i := 28) rfl))) (by decide) (t := (.array .int)) (t' := .int) (by decide) (by decide)))
  replace F_o0_position := F_o0_position.other W6 (Or.inr (slot_ne (Or.inr (hw _ (List.mem_of_getElem? (i := 14) rfl))) (Or.inl (hw _ (List.mem_of_getElem? (i := 28) rfl))) (by decide) (t := (.array .int)) (t' := .int) (by decide) (by decide)))
  replace F_o0_key := F_o0_key.other W6 (Or.inr (slot_ne (Or.inr (hw _ (List.mem_of_getElem? (i := 17) rfl))) (Or.inl (hw _ (List.mem_of_getElem? (i := 28) rfl))) (by decide) (t := (.array .double)) (t' := .int) (by decide) (by decide)))
  replace F_o0_size := F_o0_size.same W6
  replace V_heap_o0 := V_heap_o0.other W6 ne_heap_o0_o0
  replace V_position_o0 := V_position_o0.other W6 (Ne.symm ne_o0_position_o0)
  replace V_key_o0 := V_key_o0.other W6 ne_key_o0_o0
  have N6 := Fr.snoc X6 N3 g_o0
  replace K0 := K0.wr W6 (Or.inl (by simp))
  replace Z0 := Nat.le_trans Z0 (Nat.le_of_eq W6.size.symm)
  refine own_aloadN X6 hx hby rfl rfl d9_24 (pc' := 25) rfl ?_
  refine own_getF X6 hx hby hZ hown (host := "") (Or.inl (hw _ (List.mem_of_getElem? (i := 27) rfl))) Via.refl eH6 F_o0_size d9_25 (pc' := 28) rfl (fun T7 X7 eH7 => ?_)
  refine own_ifF X7 hx hby d9_28 (by decide) (pc' := 31) rfl ?_
  refine own_aloadN X7 hx hby rfl rfl d9_31 (pc' := 32) rfl ?_
  refine own_iconst X7 hx hby (v := (0 : Int32)) (by decide) d9_32 (pc' := 33) rfl ?_
  refine own_aloadN X7 hx hby rfl rfl d9_33 (pc' := 34) rfl ?_
  refine own_getF X7 hx hby hZ hown (host := "") (Or.inl (hw _ (List.mem_of_getElem? (i := 11) rfl))) Via.refl eH7 F_o0_heap d9_34 (pc' := 37) rfl (fun T8 X8 eH8 => ?_)
  refine own_aloadN X8 hx hby rfl rfl d9_37 (pc' := 38) rfl ?_
  refine own_getF X8 hx hby hZ hown (host := "") (Or.inl (hw _ (List.mem_of_getElem? (i := 27) rfl))) Via.refl eH8 F_o0_size d9_38 (pc' := 41) rfl (fun T9 X9 eH9 => ?_)
  refine own_iaload X9 hx hby hZ eH9 V_heap_o0 (by decide) (v := (.int y1)) rfl d9_41 (pc' := 42) rfl ?_
  refine own_private X9 hx hby hZ (y := (⟨"com/example/cross_town/crosstown/solve/NodeHeap", "siftDown", "(II)V"⟩ : MethodName)) (rest := []) hown (hw _ (List.mem_of_getElem? (i := 50) rfl)) (hw _ (List.mem_of_getElem? (i := 51) rfl)) (hw _ (List.mem_of_getElem? (i := 2) rfl)) (hw _ (List.mem_of_getElem? (i := 52) rfl)) (hw _ (List.mem_of_getElem? (i := 53) rfl)) (hw _ (List.mem_of_getElem? (i := 3) rfl)) (by decide) (rm101 l Z a0 hw [] o0 y1 heap_o0 position_o0 key_o0 y0 y1 y2 y3 (P.set y0.toNatClampNeg (-1 : Int32)) K h6 n0 Z0 E_o0 F_o0_heap F_o0_position F_o0_key V_heap_o0 V_position_o0 (by first | assumption | rfl | (simp only [List.length_set]; first | assumption | rfl)) V_key_o0 (by first | assumption | rfl | (simp only [List.length_set]; first | assumption | rfl)) F_o0_size rg_y1 nnk (by rw [own_pvs hl_P rg_y0 rg_y1, if_neg d_y0_y1]; exact pv_y1) g_heap_o0 (Ne.symm ne_heap_o0_o0) (Ne.symm ne_heap_o0_position_o0) g_position_o0 ne_o0_position_o0 ne_key_o0_position_o0 ne_key_o0_heap_o0) eH9 (by rw [hml]; rfl) (a := o0) E_o0 (argsL := [(.int (0 : Int32)), (.int y1)]) rfl (lenOf pd_1 rfl) rfl d9_42 (pc' := 45) rfl (by decide) (W := 0) (Nat.le_of_eq rfl) (by decide) (by decide) (by decide) (fun T10 h10 Lc10 v10r X10 eH10 hQ10 => ?_)
  obtain ⟨rfl, Nq10, Kq10, gq10_0, gq10_1, gq10_2, gq10_3, gq10_4⟩ := hQ10
  have N10 := Fr.app N6 Nq10
  replace E_o0 := E_o0.keep Kq10
  replace F_o0_heap := F_o0_heap.keep Kq10 (ninS ne_o0_position_o0 (ninS (Ne.symm ne_heap_o0_o0) nin0))
  replace F_o0_position := F_o0_position.keep Kq10 (ninS ne_o0_position_o0 (ninS (Ne.symm ne_heap_o0_o0) nin0))
  replace F_o0_key := F_o0_key.keep Kq10 (ninS ne_o0_position_o0 (ninS (Ne.symm ne_heap_o0_o0) nin0))
  replace F_o0_size := F_o0_size.keep Kq10 (ninS ne_o0_position_o0 (ninS (Ne.symm ne_heap_o0_o0) nin0))
  replace V_key_o0 := V_key_o0.keep Kq10 (ninS ne_key_o0_position_o0 (ninS ne_key_o0_heap_o0 nin0))
  replace K0 := K0.trans Kq10 (allS (Or.inl (by simp)) (allS (Or.inl (by simp)) all0))
  have hl11 : ((P.set y0.toNatClampNeg (-1 : Int32)).set y1.toNatClampNeg (0 : Int32)).length = 4 := by (repeat' split) <;> (simp only [List.length_set]; first | assumption | rfl)
  have V_position_o0 := gq10_0
  have V_heap_o0 := gq10_1
  have hp_10 : Hp1 y1 ((P.set y0.toNatClampNeg (-1 : Int32)).set y1.toNatClampNeg (0 : Int32)) K := gq10_2
  have ab_10 : ∀ z : Int32, (0 ≤ z.toInt ∧ z.toInt < 4) → pv (P.set y0.toNatClampNeg (-1 : Int32)) z = -1 → pv ((P.set y0.toNatClampNeg (-1 : Int32)).set y1.toNatClampNeg (0 : Int32)) z = -1 := gq10_3
  have lb_10 : ∀ m : Int, m ≤ kv K y1 → m ≤ kv K y1 := gq10_4
  replace Z0 := Nat.le_trans Z0 Kq10.1
  refine own_iloadN X10 hx hby rfl d9_45 (pc' := 46) rfl ?_
  have HA0 : ∀ z : Int32, (0 ≤ z.toInt ∧ z.toInt < 4) → pv P z = -1 → pv (P.set y0.toNatClampNeg (-1 : Int32)) z = -1 := fun z rgz hz => (by rw [own_pvs hl_P rg_y0 rgz, if_neg (own_pne pv_y0 hz (by decide))]; exact hz)
  have HZ0 : pv (P.set y0.toNatClampNeg (-1 : Int32)) y0 = -1 := (by rw [own_pvs hl_P rg_y0 rg_y0, if_pos rfl]; first | done | decide)
  exact own_retI X10 hx hby Bd.notSynchronized Bd.returns d9_46 (by decide) (by decide) eH10 ⟨rfl, N10, K0, V_position_o0, E_o0, F_o0_heap, F_o0_position, F_o0_key, F_o0_size, V_heap_o0, hp_10, (fun z rgz hz => ab_10 z rgz (HA0 z rgz hz)), (ab_10 y0 rg_y0 HZ0), rg_y0, (lb_10 (kv K y0) (by omega))⟩
theorem ef93 (m : MethodId) (x0 : Addr) : entryFrame m #[(.ref x0)] 2 = mkF m 0 #[.val (.ref x0), .unset] [] := by first | (simp [entryFrame, mkF, argsToLocals, Value.category]; done) | rfl
def Q93 (Z : State) (o0 : Addr) (heap_o0 : Addr) (position_o0 : Addr) (key_o0 : Addr) (y0 : Int32) (y1 : Int32) (y2 : Int32) (y3 : Int32) (P : List Int32) (K : List UInt64) (h0 : Heap) (n0 : Nat) (v : Option Value) (h : Heap) (L : List Loc) : Prop := v = some (.int y0) ∧ Fr n0 L ∧ Keep h0 h [position_o0, o0, heap_o0] ∧ Ary tr Z h position_o0 .int ((if dle (K.getD y2.toNatClampNeg 0) (K.getD y1.toNatClampNeg 0) then ((P.set y0.toNatClampNeg (-1 : Int32)).set y2.toNatClampNeg (0 : Int32)) else (((P.set y0.toNatClampNeg (-1 : Int32)).set y1.toNatClampNeg (0 : Int32)).set y2.toNatClampNeg (1 : Int32))).map Value.int) ∧ Exa Z h o0 "com/example/cross_town/crosstown/solve/NodeHeap" ∧ Fld Z h o0 "com/example/cross_town/crosstown/solve/NodeHeap" "heap" "[I" (.ref heap_o0) ∧ Fld Z h o0 "com/example/cross_town/crosstown/solve/NodeHeap" "position" "[I" (.ref position_o0) ∧ Fld Z h o0 "com/example/cross_town/crosstown/solve/NodeHeap" "key" "[D" (.ref key_o0) ∧ Fld Z h o0 "com/example/cross_town/crosstown/solve/NodeHeap" "size" "I" (.int (2 : Int32)) ∧ Ary tr Z h heap_o0 .int [(.int (if dle (K.getD y2.toNatClampNeg 0) (K.getD y1.toNatClampNeg 0) then y2 else y1)), (.int (if dle (K.getD y2.toNatClampNeg 0) (K.getD y1.toNatClampNeg 0) then y1 else y2)), (.int y2), (.int y3)] ∧ (Hp2 (if dle (K.getD y2.toNatClampNeg 0) (K.getD y1.toNatClampNeg 0) then y2 else y1) (if dle (K.getD y2.toNatClampNeg 0) (K.getD y1.toNatClampNeg 0) then y1 else y2) (if dle (K.getD y2.toNatClampNeg 0) (K.getD y1.toNatClampNeg 0) then ((P.set y0.toNatClampNeg (-1 : Int32)).set y2.toNatClampNeg (0 : Int32)) else (((P.set y0.toNatClampNeg (-1 : Int32)).set y1.toNatClampNeg (0 : Int32)).set y2.toNatClampNeg (1 : Int32))) K) ∧ (∀ z : Int32, (0 ≤ z.toInt ∧ z.toInt < 4) → pv P z = -1 → pv (if dle (K.getD y2.toNatClampNeg 0) (K.getD y1.toNatClampNeg 0) then ((P.set y0.toNatClampNeg (-1 : Int32)).set y2.toNatClampNeg (0 : Int32)) else (((P.set y0.toNatClampNeg (-1 : Int32)).set y1.toNatClampNeg (0 : Int32)).set y2.toNatClampNeg (1 : Int32))) z = -1) ∧ (pv (if dle (K.getD y2.toNatClampNeg 0) (K.getD y1.toNatClampNeg 0) then ((P.set y0.toNatClampNeg (-1 : Int32)).set y2.toNatClampNeg (0 : Int32)) else (((P.set y0.toNatClampNeg (-1 : Int32)).set y1.toNatClampNeg (0 : Int32)).set y2.toNatClampNeg (1 : Int32))) y0 = -1) ∧ (0 ≤ y0.toInt ∧ y0.toInt < 4) ∧ (kv K y0 ≤ kv K (if dle (K.getD y2.toNatClampNeg 0) (K.getD y1.toNatClampNeg 0) then y2 else y1) ∧ kv K y0 ≤ kv K (if dle (K.getD y2.toNatClampNeg 0) (K.getD y1.toNatClampNeg 0) then y1 else y2))
set_option maxRecDepth 65536 in
set_option maxHeartbeats 40000000 in
theorem rm93 (l : Launch) (Z : State) (a0 : Array Value) (hw : ∀ d ∈ tables_1, d.before a0 Z = true) (ws : List Jvm.Cond) (o0 : Addr) (heap_o0 : Addr) (position_o0 : Addr) (key_o0 : Addr) (y0 : Int32) (y1 : Int32) (y2 : Int32) (y3 : Int32) (P : List Int32) (K : List UInt64) (h0 : Heap) (n0 : Nat) (Z0 : n0 ≤ h0.size) (E_o0 : Exa Z h0 o0 "com/example/cross_town/crosstown/solve/NodeHeap") (F_o0_heap : Fld Z h0 o0 "com/example/cross_town/crosstown/solve/NodeHeap" "heap" "[I" (.ref heap_o0)) (F_o0_position : Fld Z h0 o0 "com/example/cross_town/crosstown/solve/NodeHeap" "position" "[I" (.ref position_o0)) (F_o0_key : Fld Z h0 o0 "com/example/cross_town/crosstown/solve/NodeHeap" "key" "[D" (.ref key_o0)) (V_heap_o0 : Ary tr Z h0 heap_o0 .int [(.int y0), (.int y1), (.int y2), (.int y3)]) (V_position_o0 : Ary tr Z h0 position_o0 .int (P.map Value.int)) (hl_P : (P.length = 4)) (V_key_o0 : Ary tr Z h0 key_o0 .double (K.map Value.double)) (hl_K : (K.length = 4)) (F_o0_size : Fld Z h0 o0 "com/example/cross_town/crosstown/solve/NodeHeap" "size" "I" (.int (3 : Int32))) (nnk : (NNk K)) (hp : (Hp3 y0 y1 y2 P K)) (g_position_o0 : n0 ≤ position_o0) (ne_o0_position_o0 : o0 ≠ position_o0) (ne_heap_o0_position_o0 : heap_o0 ≠ position_o0) (ne_key_o0_position_o0 : key_o0 ≠ position_o0) (g_o0 : n0 ≤ o0) (ne_heap_o0_o0 : heap_o0 ≠ o0) (ne_key_o0_o0 : key_o0 ≠ o0) (g_heap_o0 : n0 ≤ heap_o0) (ne_key_o0_heap_o0 : key_o0 ≠ heap_o0) :
    MetFree l (⟨"com/example/cross_town/crosstown/solve/NodeHeap", "poll", "()I"⟩ : MethodName) (head1 (Jvm.Cond.code (⟨"com/example/cross_town/crosstown/solve/NodeHeap", "poll", "()I"⟩ : MethodName) prog_33_method_4_code 2 (some .int) :: ws) ({ frames := 2, cells := 0, slots := 0, locals := 30 } : Room)) (fun a U => a = #[(.ref o0)] ∧ Z.Warmed39 U.vm ∧ U.heap = h0) (fun _ _ _ _ _ => True) (fun _ U o U' => ∃ v L, o = .returned v ∧ Q93 Z o0 heap_o0 position_o0 key_o0 y0 y1 y2 y3 P K h0 n0 v U'.heap L ∧ FrameEnd U o U' L ({ frames := 2, cells := 0, slots := 0, locals := 30 } : Room).cells ({ frames := 2, cells := 0, slots := 0, locals := 30 } : Room).slots) := by
  refine MetFree.of_bodySF (plainFor_of_name pn_com_example_cross_town_crosstown_solve_NodeHeap) hisR ?_
  intro p e s m args below meth c s₁ Bd hml0 hP hK
  obtain ⟨rfl, hZ, hh⟩ := hP
  have hx := Bd.exec
  have hby := Bd.bytes
  have hml : c.maxLocals = 2 := hml0
  have hown : s.vm.findClass "com/example/cross_town/crosstown/solve/NodeHeap" = some m.cls := findClass_of_methodNamed Bd.named
  have hnm := (name_of_methodNamed Bd.named Bd.method).1
  have X0 : Stand p l e ({ frames := 2, cells := 0, slots := 0, locals := 30 } : Room) s m #[(.ref o0)] below meth c s₁ [] 0 0 := Stand.of_body Bd
  have eH0 : s₁.heap = h0 := by rw [← hh, Bd.state]; rfl
  have N0 := Fr.nil n0
  have K0 := Keep.refl h0 [position_o0, o0, heap_o0]
  show Gt p.tables e below (fun o U' => ∃ v L, o = .returned v ∧ Q93 Z o0 heap_o0 position_o0 key_o0 y0 y1 y2 y3 P K h0 n0 v U'.heap L ∧ FrameEnd s o U' L ({ frames := 2, cells := 0, slots := 0, locals := 30 } : Room).cells ({ frames := 2, cells := 0, slots := 0, locals := 30 } : Room).slots) _
  refine own_cast (ef93 m o0) ?_
  obtain ⟨rg_y0, rg_y1, rg_y2, pv_y0, pv_y1, pv_y2, ord1, ord2⟩ := hp
  have d_y0_y1 : ¬ y0.toInt = y1.toInt := own_pne pv_y0 pv_y1 (by decide)
  have d_y0_y2 : ¬ y0.toInt = y2.toInt := own_pne pv_y0 pv_y2 (by decide)
  have d_y1_y0 : ¬ y1.toInt = y0.toInt := own_pne pv_y1 pv_y0 (by decide)
  have d_y1_y2 : ¬ y1.toInt = y2.toInt := own_pne pv_y1 pv_y2 (by decide)
  have d_y2_y0 : ¬ y2.toInt = y0.toInt := own_pne pv_y2 pv_y0 (by decide)
  have d_y2_y1 : ¬ y2.toInt = y1.toInt := own_pne pv_y2 pv_y1 (by decide)
  refine own_aloadN X0 hx hby rfl rfl d9_0 (pc' := 1) rfl ?_
  refine own_getF X0 hx hby hZ hown (host := "") (Or.inl (hw _ (List.mem_of_getElem? (i := 11) rfl))) Via.refl eH0 F_o0_heap d9_1 (pc' := 4) rfl (fun T1 X1 eH1 => ?_)
  refine own_iconst X1 hx hby (v := (0 : Int32)) (by decide) d9_4 (pc' := 5) rfl ?_
  refine own_iaload X1 hx hby hZ eH1 V_heap_o0 (by decide) (v := (.int y0)) rfl d9_5 (pc' := 6) rfl ?_
  refine own_istoreN X1 hx hby (L' := #[.val (.ref o0), .val (.int y0)]) rfl d9_6 (pc' := 7) rfl ?_
  refine own_aloadN X1 hx hby rfl rfl d9_7 (pc' := 8) rfl ?_
  refine own_getF X1 hx hby hZ hown (host := "") (Or.inl (hw _ (List.mem_of_getElem? (i := 13) rfl))) Via.refl eH1 F_o0_position d9_8 (pc' := 11) rfl (fun T2 X2 eH2 => ?_)
  refine own_iloadN X2 hx hby rfl d9_11 (pc' := 12) rfl ?_
  refine own_iconst X2 hx hby (v := (-1 : Int32)) (by decide) d9_12 (pc' := 13) rfl ?_
  refine own_iastore X2 hx hby hZ eH2 V_position_o0 (own_rg0 rg_y0) (n := y0.toNatClampNeg) rfl (by rw [List.length_map]; exact own_rgl rg_y0 hl_P) d9_13 (pc' := 14) rfl (fun T3 h3 X3 eH3 W3 => ?_)
  replace E_o0 := E_o0.wr W3
  replace F_o0_heap := F_o0_heap.other W3 (Or.inl ne_o0_position_o0)
  replace F_o0_position := F_o0_position.other W3 (Or.inl ne_o0_position_o0)
  replace F_o0_key := F_o0_key.other W3 (Or.inl ne_o0_position_o0)
  replace F_o0_size := F_o0_size.other W3 (Or.inl ne_o0_position_o0)
  replace V_heap_o0 := V_heap_o0.other W3 ne_heap_o0_position_o0
  replace V_key_o0 := V_key_o0.other W3 ne_key_o0_position_o0
  have N3 := Fr.snoc X3 N0 g_position_o0
  replace K0 := K0.wr W3 (Or.inl (by simp))
  replace Z0 := Nat.le_trans Z0 (Nat.le_of_eq W3.size.symm)
  have hl4 : (P.set y0.toNatClampNeg (-1 : Int32)).length = 4 := by rw [List.length_set]; exact hl_P
  replace V_position_o0 : Ary tr Z h3 position_o0 .int ((P.set y0.toNatClampNeg (-1 : Int32)).map Value.int) := by rw [List.map_set]; exact V_position_o0.set W3
  refine own_aloadN X3 hx hby rfl rfl d9_14 (pc' := 15) rfl ?_
  refine own_dup X3 hx hby rfl d9_15 (pc' := 16) rfl ?_
  refine own_getF X3 hx hby hZ hown (host := "") (Or.inl (hw _ (List.mem_of_getElem? (i := 27) rfl))) Via.refl eH3 F_o0_size d9_16 (pc' := 19) rfl (fun T5 X5 eH5 => ?_)
  refine own_iconst X5 hx hby (v := (1 : Int32)) (by decide) d9_19 (pc' := 20) rfl ?_
  refine own_isub X5 hx hby (v := (2 : Int32)) (by decide) d9_20 (pc' := 21) rfl ?_
  refine own_putF X5 hx hby hZ hown (host := "") (Or.inl (hw _ (List.mem_of_getElem? (i := 27) rfl))) Via.refl eH5 F_o0_size E_o0 (Or.inl (hw _ (List.mem_of_getElem? (i := 28) rfl))) (hw _ (List.mem_of_getElem? (i := 2) rfl)) (ty := .int) (by decide) rfl rfl d9_21 (pc' := 24) rfl (fun T6 h6 X6 eH6 W6 => ?_)
  replace E_o0 := E_o0.wr W6
  replace F_o0_heap := F_o0_heap.other W6 (Or.inr (slot_ne (Or.inr (hw _ (List.mem_of_getElem? (i := 12) rfl))) (Or.inl (hw _ (List.mem_of_getElem? (i := 28) rfl))) (by decide) (t := (.array .int)) (t' := .int) (by decide) (by decide)))
  replace F_o0_position := F_o0_position.other W6 (Or.inr (slot_ne (Or.inr (hw _ (List.mem_of_getElem? (i := 14) rfl))) (Or.inl (hw _ (List.mem_of_getElem? (i := 28) rfl))) (by decide) (t := (.array .int)) (t' := .int) (by decide) (by decide)))
  replace F_o0_key := F_o0_key.other W6 (Or.inr (slot_ne (Or.inr (hw _ (List.mem_of_getElem? (i := 17) rfl))) (Or.inl (hw _ (List.mem_of_getElem? (i := 28) rfl))) (by decide) (t := (.array .double)) (t' := .int) (by decide) (by decide)))
  replace F_o0_size := F_o0_size.same W6
  replace V_heap_o0 := V_heap_o0.other W6 ne_heap_o0_o0
  replace V_position_o0 := V_position_o0.other W6 (Ne.symm ne_o0_position_o0)
  replace V_key_o0 := V_key_o0.other W6 ne_key_o0_o0
  have N6 := Fr.snoc X6 N3 g_o0
  replace K0 := K0.wr W6 (Or.inl (by simp))
  replace Z0 := Nat.le_trans Z0 (Nat.le_of_eq W6.size.symm)
  refine own_aloadN X6 hx hby rfl rfl d9_24 (pc' := 25) rfl ?_
  refine own_getF X6 hx hby hZ hown (host := "") (Or.inl (hw _ (List.mem_of_getElem? (i := 27) rfl))) Via.refl eH6 F_o0_size d9_25 (pc' := 28) rfl (fun T7 X7 eH7 => ?_)
  refine own_ifF X7 hx hby d9_28 (by decide) (pc' := 31) rfl ?_
  refine own_aloadN X7 hx hby rfl rfl d9_31 (pc' := 32) rfl ?_
  refine own_iconst X7 hx hby (v := (0 : Int32)) (by decide) d9_32 (pc' := 33) rfl ?_
  refine own_aloadN X7 hx hby rfl rfl d9_33 (pc' := 34) rfl ?_
  refine own_getF X7 hx hby hZ hown (host := "") (Or.inl (hw _ (List.mem_of_getElem? (i := 11) rfl))) Via.refl eH7 F_o0_heap d9_34 (pc' := 37) rfl (fun T8 X8 eH8 => ?_)
  refine own_aloadN X8 hx hby rfl rfl d9_37 (pc' := 38) rfl ?_
  refine own_getF X8 hx hby hZ hown (host := "") (Or.inl (hw _ (List.mem_of_getElem? (i := 27) rfl))) Via.refl eH8 F_o0_size d9_38 (pc' := 41) rfl (fun T9 X9 eH9 => ?_)
  refine own_iaload X9 hx hby hZ eH9 V_heap_o0 (by decide) (v := (.int y2)) rfl d9_41 (pc' := 42) rfl ?_
  refine own_private X9 hx hby hZ (y := (⟨"com/example/cross_town/crosstown/solve/NodeHeap", "siftDown", "(II)V"⟩ : MethodName)) (rest := []) hown (hw _ (List.mem_of_getElem? (i := 50) rfl)) (hw _ (List.mem_of_getElem? (i := 51) rfl)) (hw _ (List.mem_of_getElem? (i := 2) rfl)) (hw _ (List.mem_of_getElem? (i := 52) rfl)) (hw _ (List.mem_of_getElem? (i := 53) rfl)) (hw _ (List.mem_of_getElem? (i := 3) rfl)) (by decide) (rm102 l Z a0 hw [] o0 y2 heap_o0 position_o0 key_o0 y0 y1 y2 y3 (P.set y0.toNatClampNeg (-1 : Int32)) K h6 n0 Z0 E_o0 F_o0_heap F_o0_position F_o0_key V_heap_o0 V_position_o0 (by first | assumption | rfl | (simp only [List.length_set]; first | assumption | rfl)) V_key_o0 (by first | assumption | rfl | (simp only [List.length_set]; first | assumption | rfl)) F_o0_size rg_y2 nnk (by rw [own_pvs hl_P rg_y0 rg_y2, if_neg d_y0_y2]; exact pv_y2) rg_y1 (by rw [own_pvs hl_P rg_y0 rg_y1, if_neg d_y0_y1]; exact pv_y1) g_heap_o0 (Ne.symm ne_heap_o0_o0) (Ne.symm ne_heap_o0_position_o0) g_position_o0 ne_o0_position_o0 ne_key_o0_position_o0 ne_key_o0_heap_o0) eH9 (by rw [hml]; rfl) (a := o0) E_o0 (argsL := [(.int (0 : Int32)), (.int y2)]) rfl (lenOf pd_1 rfl) rfl d9_42 (pc' := 45) rfl (by decide) (W := 0) (Nat.le_of_eq rfl) (by decide) (by decide) (by decide) (fun T10 h10 Lc10 v10r X10 eH10 hQ10 => ?_)
  obtain ⟨rfl, Nq10, Kq10, gq10_0, gq10_1, gq10_2, gq10_3, gq10_4⟩ := hQ10
  have N10 := Fr.app N6 Nq10
  replace E_o0 := E_o0.keep Kq10
  replace F_o0_heap := F_o0_heap.keep Kq10 (ninS ne_o0_position_o0 (ninS (Ne.symm ne_heap_o0_o0) nin0))
  replace F_o0_position := F_o0_position.keep Kq10 (ninS ne_o0_position_o0 (ninS (Ne.symm ne_heap_o0_o0) nin0))
  replace F_o0_key := F_o0_key.keep Kq10 (ninS ne_o0_position_o0 (ninS (Ne.symm ne_heap_o0_o0) nin0))
  replace F_o0_size := F_o0_size.keep Kq10 (ninS ne_o0_position_o0 (ninS (Ne.symm ne_heap_o0_o0) nin0))
  replace V_key_o0 := V_key_o0.keep Kq10 (ninS ne_key_o0_position_o0 (ninS ne_key_o0_heap_o0 nin0))
  replace K0 := K0.trans Kq10 (allS (Or.inl (by simp)) (allS (Or.inl (by simp)) all0))
  have hl11 : (if dle (K.getD y2.toNatClampNeg 0) (K.getD y1.toNatClampNeg 0) then ((P.set y0.toNatClampNeg (-1 : Int32)).set y2.toNatClampNeg (0 : Int32)) else (((P.set y0.toNatClampNeg (-1 : Int32)).set y1.toNatClampNeg (0 : Int32)).set y2.toNatClampNeg (1 : Int32))).length = 4 := by (repeat' split) <;> (simp only [List.length_set]; first | assumption | rfl)
  have V_position_o0 := gq10_0
  have V_heap_o0 := gq10_1
  have hp_10 : Hp2 (if dle (K.getD y2.toNatClampNeg 0) (K.getD y1.toNatClampNeg 0) then y2 else y1) (if dle (K.getD y2.toNatClampNeg 0) (K.getD y1.toNatClampNeg 0) then y1 else y2) (if dle (K.getD y2.toNatClampNeg 0) (K.getD y1.toNatClampNeg 0) then ((P.set y0.toNatClampNeg (-1 : Int32)).set y2.toNatClampNeg (0 : Int32)) else (((P.set y0.toNatClampNeg (-1 : Int32)).set y1.toNatClampNeg (0 : Int32)).set y2.toNatClampNeg (1 : Int32))) K := gq10_2
  have ab_10 : ∀ z : Int32, (0 ≤ z.toInt ∧ z.toInt < 4) → pv (P.set y0.toNatClampNeg (-1 : Int32)) z = -1 → pv (if dle (K.getD y2.toNatClampNeg 0) (K.getD y1.toNatClampNeg 0) then ((P.set y0.toNatClampNeg (-1 : Int32)).set y2.toNatClampNeg (0 : Int32)) else (((P.set y0.toNatClampNeg (-1 : Int32)).set y1.toNatClampNeg (0 : Int32)).set y2.toNatClampNeg (1 : Int32))) z = -1 := gq10_3
  have lb_10 : ∀ m : Int, m ≤ kv K y2 → m ≤ kv K y1 → m ≤ kv K (if dle (K.getD y2.toNatClampNeg 0) (K.getD y1.toNatClampNeg 0) then y2 else y1) ∧ m ≤ kv K (if dle (K.getD y2.toNatClampNeg 0) (K.getD y1.toNatClampNeg 0) then y1 else y2) := gq10_4
  replace Z0 := Nat.le_trans Z0 Kq10.1
  refine own_iloadN X10 hx hby rfl d9_45 (pc' := 46) rfl ?_
  have HA0 : ∀ z : Int32, (0 ≤ z.toInt ∧ z.toInt < 4) → pv P z = -1 → pv (P.set y0.toNatClampNeg (-1 : Int32)) z = -1 := fun z rgz hz => (by rw [own_pvs hl_P rg_y0 rgz, if_neg (own_pne pv_y0 hz (by decide))]; exact hz)
  have HZ0 : pv (P.set y0.toNatClampNeg (-1 : Int32)) y0 = -1 := (by rw [own_pvs hl_P rg_y0 rg_y0, if_pos rfl]; first | done | decide)
  exact own_retI X10 hx hby Bd.notSynchronized Bd.returns d9_46 (by decide) (by decide) eH10 ⟨rfl, N10, K0, V_position_o0, E_o0, F_o0_heap, F_o0_position, F_o0_key, F_o0_size, V_heap_o0, hp_10, (fun z rgz hz => ab_10 z rgz (HA0 z rgz hz)), (ab_10 y0 rg_y0 HZ0), rg_y0, (lb_10 (kv K y0) (by omega) (by omega))⟩
theorem ef94 (m : MethodId) (x0 : Addr) : entryFrame m #[(.ref x0)] 2 = mkF m 0 #[.val (.ref x0), .unset] [] := by first | (simp [entryFrame, mkF, argsToLocals, Value.category]; done) | rfl
def Q94 (Z : State) (o0 : Addr) (heap_o0 : Addr) (position_o0 : Addr) (key_o0 : Addr) (y0 : Int32) (y1 : Int32) (y2 : Int32) (y3 : Int32) (P : List Int32) (K : List UInt64) (h0 : Heap) (n0 : Nat) (v : Option Value) (h : Heap) (L : List Loc) : Prop := v = some (.int y0) ∧ Fr n0 L ∧ Keep h0 h [position_o0, o0, heap_o0] ∧ Ary tr Z h position_o0 .int ((if dlt (K.getD y2.toNatClampNeg 0) (K.getD y1.toNatClampNeg 0) then (if dle (K.getD y3.toNatClampNeg 0) (K.getD y2.toNatClampNeg 0) then ((P.set y0.toNatClampNeg (-1 : Int32)).set y3.toNatClampNeg (0 : Int32)) else (((P.set y0.toNatClampNeg (-1 : Int32)).set y2.toNatClampNeg (0 : Int32)).set y3.toNatClampNeg (2 : Int32))) else (if dle (K.getD y3.toNatClampNeg 0) (K.getD y1.toNatClampNeg 0) then ((P.set y0.toNatClampNeg (-1 : Int32)).set y3.toNatClampNeg (0 : Int32)) else (((P.set y0.toNatClampNeg (-1 : Int32)).set y1.toNatClampNeg (0 : Int32)).set y3.toNatClampNeg (1 : Int32)))).map Value.int) ∧ Exa Z h o0 "com/example/cross_town/crosstown/solve/NodeHeap" ∧ Fld Z h o0 "com/example/cross_town/crosstown/solve/NodeHeap" "heap" "[I" (.ref heap_o0) ∧ Fld Z h o0 "com/example/cross_town/crosstown/solve/NodeHeap" "position" "[I" (.ref position_o0) ∧ Fld Z h o0 "com/example/cross_town/crosstown/solve/NodeHeap" "key" "[D" (.ref key_o0) ∧ Fld Z h o0 "com/example/cross_town/crosstown/solve/NodeHeap" "size" "I" (.int (3 : Int32)) ∧ Ary tr Z h heap_o0 .int [(.int (if dlt (K.getD y2.toNatClampNeg 0) (K.getD y1.toNatClampNeg 0) then (if dle (K.getD y3.toNatClampNeg 0) (K.getD y2.toNatClampNeg 0) then y3 else y2) else (if dle (K.getD y3.toNatClampNeg 0) (K.getD y1.toNatClampNeg 0) then y3 else y1))), (.int (if dlt (K.getD y2.toNatClampNeg 0) (K.getD y1.toNatClampNeg 0) then (if dle (K.getD y3.toNatClampNeg 0) (K.getD y2.toNatClampNeg 0) then y1 else y1) else (if dle (K.getD y3.toNatClampNeg 0) (K.getD y1.toNatClampNeg 0) then y1 else y3))), (.int (if dlt (K.getD y2.toNatClampNeg 0) (K.getD y1.toNatClampNeg 0) then (if dle (K.getD y3.toNatClampNeg 0) (K.getD y2.toNatClampNeg 0) then y2 else y3) else (if dle (K.getD y3.toNatClampNeg 0) (K.getD y1.toNatClampNeg 0) then y2 else y2))), (.int y3)] ∧ (Hp3 (if dlt (K.getD y2.toNatClampNeg 0) (K.getD y1.toNatClampNeg 0) then (if dle (K.getD y3.toNatClampNeg 0) (K.getD y2.toNatClampNeg 0) then y3 else y2) else (if dle (K.getD y3.toNatClampNeg 0) (K.getD y1.toNatClampNeg 0) then y3 else y1)) (if dlt (K.getD y2.toNatClampNeg 0) (K.getD y1.toNatClampNeg 0) then (if dle (K.getD y3.toNatClampNeg 0) (K.getD y2.toNatClampNeg 0) then y1 else y1) else (if dle (K.getD y3.toNatClampNeg 0) (K.getD y1.toNatClampNeg 0) then y1 else y3)) (if dlt (K.getD y2.toNatClampNeg 0) (K.getD y1.toNatClampNeg 0) then (if dle (K.getD y3.toNatClampNeg 0) (K.getD y2.toNatClampNeg 0) then y2 else y3) else (if dle (K.getD y3.toNatClampNeg 0) (K.getD y1.toNatClampNeg 0) then y2 else y2)) (if dlt (K.getD y2.toNatClampNeg 0) (K.getD y1.toNatClampNeg 0) then (if dle (K.getD y3.toNatClampNeg 0) (K.getD y2.toNatClampNeg 0) then ((P.set y0.toNatClampNeg (-1 : Int32)).set y3.toNatClampNeg (0 : Int32)) else (((P.set y0.toNatClampNeg (-1 : Int32)).set y2.toNatClampNeg (0 : Int32)).set y3.toNatClampNeg (2 : Int32))) else (if dle (K.getD y3.toNatClampNeg 0) (K.getD y1.toNatClampNeg 0) then ((P.set y0.toNatClampNeg (-1 : Int32)).set y3.toNatClampNeg (0 : Int32)) else (((P.set y0.toNatClampNeg (-1 : Int32)).set y1.toNatClampNeg (0 : Int32)).set y3.toNatClampNeg (1 : Int32)))) K) ∧ (∀ z : Int32, (0 ≤ z.toInt ∧ z.toInt < 4) → pv P z = -1 → pv (if dlt (K.getD y2.toNatClampNeg 0) (K.getD y1.toNatClampNeg 0) then (if dle (K.getD y3.toNatClampNeg 0) (K.getD y2.toNatClampNeg 0) then ((P.set y0.toNatClampNeg (-1 : Int32)).set y3.toNatClampNeg (0 : Int32)) else (((P.set y0.toNatClampNeg (-1 : Int32)).set y2.toNatClampNeg (0 : Int32)).set y3.toNatClampNeg (2 : Int32))) else (if dle (K.getD y3.toNatClampNeg 0) (K.getD y1.toNatClampNeg 0) then ((P.set y0.toNatClampNeg (-1 : Int32)).set y3.toNatClampNeg (0 : Int32)) else (((P.set y0.toNatClampNeg (-1 : Int32)).set y1.toNatClampNeg (0 : Int32)).set y3.toNatClampNeg (1 : Int32)))) z = -1) ∧ (pv (if dlt (K.getD y2.toNatClampNeg 0) (K.getD y1.toNatClampNeg 0) then (if dle (K.getD y3.toNatClampNeg 0) (K.getD y2.toNatClampNeg 0) then ((P.set y0.toNatClampNeg (-1 : Int32)).set y3.toNatClampNeg (0 : Int32)) else (((P.set y0.toNatClampNeg (-1 : Int32)).set y2.toNatClampNeg (0 : Int32)).set y3.toNatClampNeg (2 : Int32))) else (if dle (K.getD y3.toNatClampNeg 0) (K.getD y1.toNatClampNeg 0) then ((P.set y0.toNatClampNeg (-1 : Int32)).set y3.toNatClampNeg (0 : Int32)) else (((P.set y0.toNatClampNeg (-1 : Int32)).set y1.toNatClampNeg (0 : Int32)).set y3.toNatClampNeg (1 : Int32)))) y0 = -1) ∧ (0 ≤ y0.toInt ∧ y0.toInt < 4) ∧ (kv K y0 ≤ kv K (if dlt (K.getD y2.toNatClampNeg 0) (K.getD y1.toNatClampNeg 0) then (if dle (K.getD y3.toNatClampNeg 0) (K.getD y2.toNatClampNeg 0) then y3 else y2) else (if dle (K.getD y3.toNatClampNeg 0) (K.getD y1.toNatClampNeg 0) then y3 else y1)) ∧ kv K y0 ≤ kv K (if dlt (K.getD y2.toNatClampNeg 0) (K.getD y1.toNatClampNeg 0) then (if dle (K.getD y3.toNatClampNeg 0) (K.getD y2.toNatClampNeg 0) then y1 else y1) else (if dle (K.getD y3.toNatClampNeg 0) (K.getD y1.toNatClampNeg 0) then y1 else y3)) ∧ kv K y0 ≤ kv K (if dlt (K.getD y2.toNatClampNeg 0) (K.getD y1.toNatClampNeg 0) then (if dle (K.getD y3.toNatClampNeg 0) (K.getD y2.toNatClampNeg 0) then y2 else y3) else (if dle (K.getD y3.toNatClampNeg 0) (K.getD y1.toNatClampNeg 0) then y2 else y2)))
set_option maxRecDepth 65536 in
set_option maxHeartbeats 40000000 in
theorem rm94 (l : Launch) (Z : State) (a0 : Array Value) (hw : ∀ d ∈ tables_1, d.before a0 Z = true) (ws : List Jvm.Cond) (o0 : Addr) (heap_o0 : Addr) (position_o0 : Addr) (key_o0 : Addr) (y0 : Int32) (y1 : Int32) (y2 : Int32) (y3 : Int32) (P : List Int32) (K : List UInt64) (h0 : Heap) (n0 : Nat) (Z0 : n0 ≤ h0.size) (E_o0 : Exa Z h0 o0 "com/example/cross_town/crosstown/solve/NodeHeap") (F_o0_heap : Fld Z h0 o0 "com/example/cross_town/crosstown/solve/NodeHeap" "heap" "[I" (.ref heap_o0)) (F_o0_position : Fld Z h0 o0 "com/example/cross_town/crosstown/solve/NodeHeap" "position" "[I" (.ref position_o0)) (F_o0_key : Fld Z h0 o0 "com/example/cross_town/crosstown/solve/NodeHeap" "key" "[D" (.ref key_o0)) (V_heap_o0 : Ary tr Z h0 heap_o0 .int [(.int y0), (.int y1), (.int y2), (.int y3)]) (V_position_o0 : Ary tr Z h0 position_o0 .int (P.map Value.int)) (hl_P : (P.length = 4)) (V_key_o0 : Ary tr Z h0 key_o0 .double (K.map Value.double)) (hl_K : (K.length = 4)) (F_o0_size : Fld Z h0 o0 "com/example/cross_town/crosstown/solve/NodeHeap" "size" "I" (.int (4 : Int32))) (nnk : (NNk K)) (hp : (Hp4 y0 y1 y2 y3 P K)) (g_position_o0 : n0 ≤ position_o0) (ne_o0_position_o0 : o0 ≠ position_o0) (ne_heap_o0_position_o0 : heap_o0 ≠ position_o0) (ne_key_o0_position_o0 : key_o0 ≠ position_o0) (g_o0 : n0 ≤ o0) (ne_heap_o0_o0 : heap_o0 ≠ o0) (ne_key_o0_o0 : key_o0 ≠ o0) (g_heap_o0 : n0 ≤ heap_o0) (ne_key_o0_heap_o0 : key_o0 ≠ heap_o0) :
    MetFree l (⟨"com/example/cross_town/crosstown/solve/NodeHeap", "poll", "()I"⟩ : MethodName) (head1 (Jvm.Cond.code (⟨"com/example/cross_town/crosstown/solve/NodeHeap", "poll", "()I"⟩ : MethodName) prog_33_method_4_code 2 (some .int) :: ws) ({ frames := 2, cells := 0, slots := 0, locals := 30 } : Room)) (fun a U => a = #[(.ref o0)] ∧ Z.Warmed39 U.vm ∧ U.heap = h0) (fun _ _ _ _ _ => True) (fun _ U o U' => ∃ v L, o = .returned v ∧ Q94 Z o0 heap_o0 position_o0 key_o0 y0 y1 y2 y3 P K h0 n0 v U'.heap L ∧ FrameEnd U o U' L ({ frames := 2, cells := 0, slots := 0, locals := 30 } : Room).cells ({ frames := 2, cells := 0, slots := 0, locals := 30 } : Room).slots) := by
  refine MetFree.of_bodySF (plainFor_of_name pn_com_example_cross_town_crosstown_solve_NodeHeap) hisR ?_
  intro p e s m args below meth c s₁ Bd hml0 hP hK
  obtain ⟨rfl, hZ, hh⟩ := hP
  have hx := Bd.exec
  have hby := Bd.bytes
  have hml : c.maxLocals = 2 := hml0
  have hown : s.vm.findClass "com/example/cross_town/crosstown/solve/NodeHeap" = some m.cls := findClass_of_methodNamed Bd.named
  have hnm := (name_of_methodNamed Bd.named Bd.method).1
  have X0 : Stand p l e ({ frames := 2, cells := 0, slots := 0, locals := 30 } : Room) s m #[(.ref o0)] below meth c s₁ [] 0 0 := Stand.of_body Bd
  have eH0 : s₁.heap = h0 := by rw [← hh, Bd.state]; rfl
  have N0 := Fr.nil n0
  have K0 := Keep.refl h0 [position_o0, o0, heap_o0]
  show Gt p.tables e below (fun o U' => ∃ v L, o = .returned v ∧ Q94 Z o0 heap_o0 position_o0 key_o0 y0 y1 y2 y3 P K h0 n0 v U'.heap L ∧ FrameEnd s o U' L ({ frames := 2, cells := 0, slots := 0, locals := 30 } : Room).cells ({ frames := 2, cells := 0, slots := 0, locals := 30 } : Room).slots) _
  refine own_cast (ef94 m o0) ?_
  obtain ⟨rg_y0, rg_y1, rg_y2, rg_y3, pv_y0, pv_y1, pv_y2, pv_y3, ord1, ord2, ord3⟩ := hp
  have d_y0_y1 : ¬ y0.toInt = y1.toInt := own_pne pv_y0 pv_y1 (by decide)
  have d_y0_y2 : ¬ y0.toInt = y2.toInt := own_pne pv_y0 pv_y2 (by decide)
  have d_y0_y3 : ¬ y0.toInt = y3.toInt := own_pne pv_y0 pv_y3 (by decide)
  have d_y1_y0 : ¬ y1.toInt = y0.toInt := own_pne pv_y1 pv_y0 (by decide)
  have d_y1_y2 : ¬ y1.toInt = y2.toInt := own_pne pv_y1 pv_y2 (by decide)
  have d_y1_y3 : ¬ y1.toInt = y3.toInt := own_pne pv_y1 pv_y3 (by decide)
  have d_y2_y0 : ¬ y2.toInt = y0.toInt := own_pne pv_y2 pv_y0 (by decide)
  have d_y2_y1 : ¬ y2.toInt = y1.toInt := own_pne pv_y2 pv_y1 (by decide)
  have d_y2_y3 : ¬ y2.toInt = y3.toInt := own_pne pv_y2 pv_y3 (by decide)
  have d_y3_y0 : ¬ y3.toInt = y0.toInt := own_pne pv_y3 pv_y0 (by decide)
  have d_y3_y1 : ¬ y3.toInt = y1.toInt := own_pne pv_y3 pv_y1 (by decide)
  have d_y3_y2 : ¬ y3.toInt = y2.toInt := own_pne pv_y3 pv_y2 (by decide)
  refine own_aloadN X0 hx hby rfl rfl d9_0 (pc' := 1) rfl ?_
  refine own_getF X0 hx hby hZ hown (host := "") (Or.inl (hw _ (List.mem_of_getElem? (i := 11) rfl))) Via.refl eH0 F_o0_heap d9_1 (pc' := 4) rfl (fun T1 X1 eH1 => ?_)
  refine own_iconst X1 hx hby (v := (0 : Int32)) (by decide) d9_4 (pc' := 5) rfl ?_
  refine own_iaload X1 hx hby hZ eH1 V_heap_o0 (by decide) (v := (.int y0)) rfl d9_5 (pc' := 6) rfl ?_
  refine own_istoreN X1 hx hby (L' := #[.val (.ref o0), .val (.int y0)]) rfl d9_6 (pc' := 7) rfl ?_
  refine own_aloadN X1 hx hby rfl rfl d9_7 (pc' := 8) rfl ?_
  refine own_getF X1 hx hby hZ hown (host := "") (Or.inl (hw _ (List.mem_of_getElem? (i := 13) rfl))) Via.refl eH1 F_o0_position d9_8 (pc' := 11) rfl (fun T2 X2 eH2 => ?_)
  refine own_iloadN X2 hx hby rfl d9_11 (pc' := 12) rfl ?_
  refine own_iconst X2 hx hby (v := (-1 : Int32)) (by decide) d9_12 (pc' := 13) rfl ?_
  refine own_iastore X2 hx hby hZ eH2 V_position_o0 (own_rg0 rg_y0) (n := y0.toNatClampNeg) rfl (by rw [List.length_map]; exact own_rgl rg_y0 hl_P) d9_13 (pc' := 14) rfl (fun T3 h3 X3 eH3 W3 => ?_)
  replace E_o0 := E_o0.wr W3
  replace F_o0_heap := F_o0_heap.other W3 (Or.inl ne_o0_position_o0)
  replace F_o0_position := F_o0_position.other W3 (Or.inl ne_o0_position_o0)
  replace F_o0_key := F_o0_key.other W3 (Or.inl ne_o0_position_o0)
  replace F_o0_size := F_o0_size.other W3 (Or.inl ne_o0_position_o0)
  replace V_heap_o0 := V_heap_o0.other W3 ne_heap_o0_position_o0
  replace V_key_o0 := V_key_o0.other W3 ne_key_o0_position_o0
  have N3 := Fr.snoc X3 N0 g_position_o0
  replace K0 := K0.wr W3 (Or.inl (by simp))
  replace Z0 := Nat.le_trans Z0 (Nat.le_of_eq W3.size.symm)
  have hl4 : (P.set y0.toNatClampNeg (-1 : Int32)).length = 4 := by rw [List.length_set]; exact hl_P
  replace V_position_o0 : Ary tr Z h3 position_o0 .int ((P.set y0.toNatClampNeg (-1 : Int32)).map Value.int) := by rw [List.map_set]; exact V_position_o0.set W3
  refine own_aloadN X3 hx hby rfl rfl d9_14 (pc' := 15) rfl ?_
  refine own_dup X3 hx hby rfl d9_15 (pc' := 16) rfl ?_
  refine own_getF X3 hx hby hZ hown (host := "") (Or.inl (hw _ (List.mem_of_getElem? (i := 27) rfl))) Via.refl eH3 F_o0_size d9_16 (pc' := 19) rfl (fun T5 X5 eH5 => ?_)
  refine own_iconst X5 hx hby (v := (1 : Int32)) (by decide) d9_19 (pc' := 20) rfl ?_
  refine own_isub X5 hx hby (v := (3 : Int32)) (by decide) d9_20 (pc' := 21) rfl ?_
  refine own_putF X5 hx hby hZ hown (host := "") (Or.inl (hw _ (List.mem_of_getElem? (i := 27) rfl))) Via.refl eH5 F_o0_size E_o0 (Or.inl (hw _ (List.mem_of_getElem? (i := 28) rfl))) (hw _ (List.mem_of_getElem? (i := 2) rfl)) (ty := .int) (by decide) rfl rfl d9_21 (pc' := 24) rfl (fun T6 h6 X6 eH6 W6 => ?_)
  replace E_o0 := E_o0.wr W6
  replace F_o0_heap := F_o0_heap.other W6 (Or.inr (slot_ne (Or.inr (hw _ (List.mem_of_getElem? (i := 12) rfl))) (Or.inl (hw _ (List.mem_of_getElem? (i := 28) rfl))) (by decide) (t := (.array .int)) (t' := .int) (by decide) (by decide)))
  replace F_o0_position := F_o0_position.other W6 (Or.inr (slot_ne (Or.inr (hw _ (List.mem_of_getElem? (i := 14) rfl))) (Or.inl (hw _ (List.mem_of_getElem? (i := 28) rfl))) (by decide) (t := (.array .int)) (t' := .int) (by decide) (by decide)))
  replace F_o0_key := F_o0_key.other W6 (Or.inr (slot_ne (Or.inr (hw _ (List.mem_of_getElem? (i := 17) rfl))) (Or.inl (hw _ (List.mem_of_getElem? (i := 28) rfl))) (by decide) (t := (.array .double)) (t' := .int) (by decide) (by decide)))
  replace F_o0_size := F_o0_size.same W6
  replace V_heap_o0 := V_heap_o0.other W6 ne_heap_o0_o0
  replace V_position_o0 := V_position_o0.other W6 (Ne.symm ne_o0_position_o0)
  replace V_key_o0 := V_key_o0.other W6 ne_key_o0_o0
  have N6 := Fr.snoc X6 N3 g_o0
  replace K0 := K0.wr W6 (Or.inl (by simp))
  replace Z0 := Nat.le_trans Z0 (Nat.le_of_eq W6.size.symm)
  refine own_aloadN X6 hx hby rfl rfl d9_24 (pc' := 25) rfl ?_
  refine own_getF X6 hx hby hZ hown (host := "") (Or.inl (hw _ (List.mem_of_getElem? (i := 27) rfl))) Via.refl eH6 F_o0_size d9_25 (pc' := 28) rfl (fun T7 X7 eH7 => ?_)
  refine own_ifF X7 hx hby d9_28 (by decide) (pc' := 31) rfl ?_
  refine own_aloadN X7 hx hby rfl rfl d9_31 (pc' := 32) rfl ?_
  refine own_iconst X7 hx hby (v := (0 : Int32)) (by decide) d9_32 (pc' := 33) rfl ?_
  refine own_aloadN X7 hx hby rfl rfl d9_33 (pc' := 34) rfl ?_
  refine own_getF X7 hx hby hZ hown (host := "") (Or.inl (hw _ (List.mem_of_getElem? (i := 11) rfl))) Via.refl eH7 F_o0_heap d9_34 (pc' := 37) rfl (fun T8 X8 eH8 => ?_)
  refine own_aloadN X8 hx hby rfl rfl d9_37 (pc' := 38) rfl ?_
  refine own_getF X8 hx hby hZ hown (host := "") (Or.inl (hw _ (List.mem_of_getElem? (i := 27) rfl))) Via.refl eH8 F_o0_size d9_38 (pc' := 41) rfl (fun T9 X9 eH9 => ?_)
  refine own_iaload X9 hx hby hZ eH9 V_heap_o0 (by decide) (v := (.int y3)) rfl d9_41 (pc' := 42) rfl ?_
  refine own_private X9 hx hby hZ (y := (⟨"com/example/cross_town/crosstown/solve/NodeHeap", "siftDown", "(II)V"⟩ : MethodName)) (rest := []) hown (hw _ (List.mem_of_getElem? (i := 50) rfl)) (hw _ (List.mem_of_getElem? (i := 51) rfl)) (hw _ (List.mem_of_getElem? (i := 2) rfl)) (hw _ (List.mem_of_getElem? (i := 52) rfl)) (hw _ (List.mem_of_getElem? (i := 53) rfl)) (hw _ (List.mem_of_getElem? (i := 3) rfl)) (by decide) (rm103 l Z a0 hw [] o0 y3 heap_o0 position_o0 key_o0 y0 y1 y2 y3 (P.set y0.toNatClampNeg (-1 : Int32)) K h6 n0 Z0 E_o0 F_o0_heap F_o0_position F_o0_key V_heap_o0 V_position_o0 (by first | assumption | rfl | (simp only [List.length_set]; first | assumption | rfl)) V_key_o0 (by first | assumption | rfl | (simp only [List.length_set]; first | assumption | rfl)) F_o0_size rg_y3 nnk (by rw [own_pvs hl_P rg_y0 rg_y3, if_neg d_y0_y3]; exact pv_y3) rg_y1 (by rw [own_pvs hl_P rg_y0 rg_y1, if_neg d_y0_y1]; exact pv_y1) rg_y2 (by rw [own_pvs hl_P rg_y0 rg_y2, if_neg d_y0_y2]; exact pv_y2) g_heap_o0 (Ne.symm ne_heap_o0_o0) (Ne.symm ne_heap_o0_position_o0) g_position_o0 ne_o0_position_o0 ne_key_o0_position_o0 ne_key_o0_heap_o0) eH9 (by rw [hml]; rfl) (a := o0) E_o0 (argsL := [(.int (0 : Int32)), (.int y3)]) rfl (lenOf pd_1 rfl) rfl d9_42 (pc' := 45) rfl (by decide) (W := 0) (Nat.le_of_eq rfl) (by decide) (by decide) (by decide) (fun T10 h10 Lc10 v10r X10 eH10 hQ10 => ?_)
  obtain ⟨rfl, Nq10, Kq10, gq10_0, gq10_1, gq10_2, gq10_3, gq10_4⟩ := hQ10
  have N10 := Fr.app N6 Nq10
  replace E_o0 := E_o0.keep Kq10
  replace F_o0_heap := F_o0_heap.keep Kq10 (ninS ne_o0_position_o0 (ninS (Ne.symm ne_heap_o0_o0) nin0))
  replace F_o0_position := F_o0_position.keep Kq10 (ninS ne_o0_position_o0 (ninS (Ne.symm ne_heap_o0_o0) nin0))
  replace F_o0_key := F_o0_key.keep Kq10 (ninS ne_o0_position_o0 (ninS (Ne.symm ne_heap_o0_o0) nin0))
  replace F_o0_size := F_o0_size.keep Kq10 (ninS ne_o0_position_o0 (ninS (Ne.symm ne_heap_o0_o0) nin0))
  replace V_key_o0 := V_key_o0.keep Kq10 (ninS ne_key_o0_position_o0 (ninS ne_key_o0_heap_o0 nin0))
  replace K0 := K0.trans Kq10 (allS (Or.inl (by simp)) (allS (Or.inl (by simp)) all0))
  have hl11 : (if dlt (K.getD y2.toNatClampNeg 0) (K.getD y1.toNatClampNeg 0) then (if dle (K.getD y3.toNatClampNeg 0) (K.getD y2.toNatClampNeg 0) then ((P.set y0.toNatClampNeg (-1 : Int32)).set y3.toNatClampNeg (0 : Int32)) else (((P.set y0.toNatClampNeg (-1 : Int32)).set y2.toNatClampNeg (0 : Int32)).set y3.toNatClampNeg (2 : Int32))) else (if dle (K.getD y3.toNatClampNeg 0) (K.getD y1.toNatClampNeg 0) then ((P.set y0.toNatClampNeg (-1 : Int32)).set y3.toNatClampNeg (0 : Int32)) else (((P.set y0.toNatClampNeg (-1 : Int32)).set y1.toNatClampNeg (0 : Int32)).set y3.toNatClampNeg (1 : Int32)))).length = 4 := by (repeat' split) <;> (simp only [List.length_set]; first | assumption | rfl)
  have V_position_o0 := gq10_0
  have V_heap_o0 := gq10_1
  have hp_10 : Hp3 (if dlt (K.getD y2.toNatClampNeg 0) (K.getD y1.toNatClampNeg 0) then (if dle (K.getD y3.toNatClampNeg 0) (K.getD y2.toNatClampNeg 0) then y3 else y2) else (if dle (K.getD y3.toNatClampNeg 0) (K.getD y1.toNatClampNeg 0) then y3 else y1)) (if dlt (K.getD y2.toNatClampNeg 0) (K.getD y1.toNatClampNeg 0) then (if dle (K.getD y3.toNatClampNeg 0) (K.getD y2.toNatClampNeg 0) then y1 else y1) else (if dle (K.getD y3.toNatClampNeg 0) (K.getD y1.toNatClampNeg 0) then y1 else y3)) (if dlt (K.getD y2.toNatClampNeg 0) (K.getD y1.toNatClampNeg 0) then (if dle (K.getD y3.toNatClampNeg 0) (K.getD y2.toNatClampNeg 0) then y2 else y3) else (if dle (K.getD y3.toNatClampNeg 0) (K.getD y1.toNatClampNeg 0) then y2 else y2)) (if dlt (K.getD y2.toNatClampNeg 0) (K.getD y1.toNatClampNeg 0) then (if dle (K.getD y3.toNatClampNeg 0) (K.getD y2.toNatClampNeg 0) then ((P.set y0.toNatClampNeg (-1 : Int32)).set y3.toNatClampNeg (0 : Int32)) else (((P.set y0.toNatClampNeg (-1 : Int32)).set y2.toNatClampNeg (0 : Int32)).set y3.toNatClampNeg (2 : Int32))) else (if dle (K.getD y3.toNatClampNeg 0) (K.getD y1.toNatClampNeg 0) then ((P.set y0.toNatClampNeg (-1 : Int32)).set y3.toNatClampNeg (0 : Int32)) else (((P.set y0.toNatClampNeg (-1 : Int32)).set y1.toNatClampNeg (0 : Int32)).set y3.toNatClampNeg (1 : Int32)))) K := gq10_2
  have ab_10 : ∀ z : Int32, (0 ≤ z.toInt ∧ z.toInt < 4) → pv (P.set y0.toNatClampNeg (-1 : Int32)) z = -1 → pv (if dlt (K.getD y2.toNatClampNeg 0) (K.getD y1.toNatClampNeg 0) then (if dle (K.getD y3.toNatClampNeg 0) (K.getD y2.toNatClampNeg 0) then ((P.set y0.toNatClampNeg (-1 : Int32)).set y3.toNatClampNeg (0 : Int32)) else (((P.set y0.toNatClampNeg (-1 : Int32)).set y2.toNatClampNeg (0 : Int32)).set y3.toNatClampNeg (2 : Int32))) else (if dle (K.getD y3.toNatClampNeg 0) (K.getD y1.toNatClampNeg 0) then ((P.set y0.toNatClampNeg (-1 : Int32)).set y3.toNatClampNeg (0 : Int32)) else (((P.set y0.toNatClampNeg (-1 : Int32)).set y1.toNatClampNeg (0 : Int32)).set y3.toNatClampNeg (1 : Int32)))) z = -1 := gq10_3
  have lb_10 : ∀ m : Int, m ≤ kv K y3 → m ≤ kv K y1 → m ≤ kv K y2 → m ≤ kv K (if dlt (K.getD y2.toNatClampNeg 0) (K.getD y1.toNatClampNeg 0) then (if dle (K.getD y3.toNatClampNeg 0) (K.getD y2.toNatClampNeg 0) then y3 else y2) else (if dle (K.getD y3.toNatClampNeg 0) (K.getD y1.toNatClampNeg 0) then y3 else y1)) ∧ m ≤ kv K (if dlt (K.getD y2.toNatClampNeg 0) (K.getD y1.toNatClampNeg 0) then (if dle (K.getD y3.toNatClampNeg 0) (K.getD y2.toNatClampNeg 0) then y1 else y1) else (if dle (K.getD y3.toNatClampNeg 0) (K.getD y1.toNatClampNeg 0) then y1 else y3)) ∧ m ≤ kv K (if dlt (K.getD y2.toNatClampNeg 0) (K.getD y1.toNatClampNeg 0) then (if dle (K.getD y3.toNatClampNeg 0) (K.getD y2.toNatClampNeg 0) then y2 else y3) else (if dle (K.getD y3.toNatClampNeg 0) (K.getD y1.toNatClampNeg 0) then y2 else y2)) := gq10_4
  replace Z0 := Nat.le_trans Z0 Kq10.1
  refine own_iloadN X10 hx hby rfl d9_45 (pc' := 46) rfl ?_
  have HA0 : ∀ z : Int32, (0 ≤ z.toInt ∧ z.toInt < 4) → pv P z = -1 → pv (P.set y0.toNatClampNeg (-1 : Int32)) z = -1 := fun z rgz hz => (by rw [own_pvs hl_P rg_y0 rgz, if_neg (own_pne pv_y0 hz (by decide))]; exact hz)
  have HZ0 : pv (P.set y0.toNatClampNeg (-1 : Int32)) y0 = -1 := (by rw [own_pvs hl_P rg_y0 rg_y0, if_pos rfl]; first | done | decide)
  exact own_retI X10 hx hby Bd.notSynchronized Bd.returns d9_46 (by decide) (by decide) eH10 ⟨rfl, N10, K0, V_position_o0, E_o0, F_o0_heap, F_o0_position, F_o0_key, F_o0_size, V_heap_o0, hp_10, (fun z rgz hz => ab_10 z rgz (HA0 z rgz hz)), (ab_10 y0 rg_y0 HZ0), rg_y0, (lb_10 (kv K y0) (by omega) (by omega) (by omega))⟩
theorem ef8 (m : MethodId) (x0 : Int64) (x1 : Int64) : entryFrame m #[(.long x0), (.long x1)] 4 = mkF m 0 #[.val (.long x0), .second, .val (.long x1), .second] [] := by first | (simp [entryFrame, mkF, argsToLocals, Value.category]; done) | rfl
def Q8 (Z : State) (p0 : Int64) (p1 : Int64) (h0 : Heap) (n0 : Nat) (v : Option Value) (h : Heap) (L : List Loc) : Prop := v = some (.long (if p1 < p0 then p1 else p0)) ∧ Fr n0 L ∧ h0 = h
set_option maxRecDepth 65536 in
set_option maxHeartbeats 40000000 in
theorem rm8 (l : Launch) (Z : State) (a0 : Array Value) (hw : ∀ d ∈ tables_1, d.before a0 Z = true) (ws : List Jvm.Cond) (p0 : Int64) (p1 : Int64) (h0 : Heap) (n0 : Nat) (Z0 : n0 ≤ h0.size) :
    MetFree l (⟨"java/lang/Math", "min", "(JJ)J"⟩ : MethodName) (head1 (Jvm.Cond.code (⟨"java/lang/Math", "min", "(JJ)J"⟩ : MethodName) jdk_29_method_70_code 4 (some .long) :: ws) ({ frames := 0, cells := 0, slots := 0, locals := 0 } : Room)) (fun a U => a = #[(.long p0), (.long p1)] ∧ Z.Warmed39 U.vm ∧ U.heap = h0) (fun _ _ _ _ _ => True) (fun _ U o U' => ∃ v L, o = .returned v ∧ Q8 Z p0 p1 h0 n0 v U'.heap L ∧ FrameEnd U o U' L ({ frames := 0, cells := 0, slots := 0, locals := 0 } : Room).cells ({ frames := 0, cells := 0, slots := 0, locals := 0 } : Room).slots) := by
  refine MetFree.of_bodySF (Jvm.Free.JP.mathPlain rfl (by decide +kernel)) hisR ?_
  intro p e s m args below meth c s₁ Bd hml0 hP hK
  obtain ⟨rfl, hZ, hh⟩ := hP
  have hx := Bd.exec
  have hby := Bd.bytes
  have hml : c.maxLocals = 4 := hml0
  have hown : s.vm.findClass "java/lang/Math" = some m.cls := findClass_of_methodNamed Bd.named
  have hnm := (name_of_methodNamed Bd.named Bd.method).1
  have X0 : Stand p l e ({ frames := 0, cells := 0, slots := 0, locals := 0 } : Room) s m #[(.long p0), (.long p1)] below meth c s₁ [] 0 0 := Stand.of_body Bd
  have eH0 : s₁.heap = h0 := by rw [← hh, Bd.state]; rfl
  have N0 := Fr.nil n0
  show Gt p.tables e below (fun o U' => ∃ v L, o = .returned v ∧ Q8 Z p0 p1 h0 n0 v U'.heap L ∧ FrameEnd s o U' L ({ frames := 0, cells := 0, slots := 0, locals := 0 } : Room).cells ({ frames := 0, cells := 0, slots := 0, locals := 0 } : Room).slots) _
  refine own_cast (ef8 m p0 p1) ?_
  refine own_lloadN X0 hx hby rfl d8_0 (pc' := 1) rfl ?_
  refine own_lloadN X0 hx hby rfl d8_1 (pc' := 2) rfl ?_
  refine own_lcmp X0 hx hby rfl d8_2 (pc' := 3) rfl ?_
  by_cases hc1 : p1 < p0
  · refine own_ifT X0 hx hby d8_3 (own_lc_gt_p hc1) (by decide) (pc' := 10) (by decide) ?_
    refine own_lloadN X0 hx hby rfl d8_10 (pc' := 11) rfl ?_
    exact own_retL X0 hx hby Bd.notSynchronized Bd.returns d8_11 (by decide) (by decide) eH0 ⟨(by rw [if_pos hc1]), N0, rfl⟩
  · refine own_ifF X0 hx hby d8_3 (own_lc_gt_n hc1) (pc' := 6) rfl ?_
    refine own_lloadN X0 hx hby rfl d8_6 (pc' := 7) rfl ?_
    refine own_goto X0 hx hby d8_7 (by decide) (pc' := 11) (by decide) ?_
    exact own_retL X0 hx hby Bd.notSynchronized Bd.returns d8_11 (by decide) (by decide) eH0 ⟨(by rw [if_neg hc1]), N0, rfl⟩
theorem ef7 (m : MethodId) (x0 : Addr) : entryFrame m #[(.ref x0)] 1 = mkF m 0 #[.val (.ref x0)] [] := by first | (simp [entryFrame, mkF, argsToLocals, Value.category]; done) | rfl
def Q7 (Z : State) (o0 : Addr) (A : List Int64) (h0 : Heap) (n0 : Nat) (v : Option Value) (h : Heap) (L : List Loc) : Prop := v = some (.long (if (if (A.getD 3 0) < (A.getD 2 0) then (A.getD 3 0) else (A.getD 2 0)) < (if (A.getD 1 0) < (A.getD 0 0) then (A.getD 1 0) else (A.getD 0 0)) then (if (A.getD 3 0) < (A.getD 2 0) then (A.getD 3 0) else (A.getD 2 0)) else (if (A.getD 1 0) < (A.getD 0 0) then (A.getD 1 0) else (A.getD 0 0)))) ∧ Fr n0 L ∧ h0 = h
set_option maxRecDepth 65536 in
set_option maxHeartbeats 40000000 in
theorem rm7 (l : Launch) (Z : State) (a0 : Array Value) (hw : ∀ d ∈ tables_1, d.before a0 Z = true) (ws : List Jvm.Cond) (o0 : Addr) (A : List Int64) (h0 : Heap) (n0 : Nat) (Z0 : n0 ≤ h0.size) (V_o0 : Ary tr Z h0 o0 .long (A.map Value.long)) (hl_A : (A.length = 4)) :
    MetFree l (⟨"com/example/cross_town/crosstown/solve/NodeHeapPollPinLaw", "min4", "([J)J"⟩ : MethodName) (head1 (Jvm.Cond.code (⟨"com/example/cross_town/crosstown/solve/NodeHeapPollPinLaw", "min4", "([J)J"⟩ : MethodName) method_2_code 1 (some .long) :: ws) ({ frames := 1, cells := 0, slots := 0, locals := 17 } : Room)) (fun a U => a = #[(.ref o0)] ∧ Z.Warmed39 U.vm ∧ U.heap = h0) (fun _ _ _ _ _ => True) (fun _ U o U' => ∃ v L, o = .returned v ∧ Q7 Z o0 A h0 n0 v U'.heap L ∧ FrameEnd U o U' L ({ frames := 1, cells := 0, slots := 0, locals := 17 } : Room).cells ({ frames := 1, cells := 0, slots := 0, locals := 17 } : Room).slots) := by
  refine MetFree.of_bodySF (plainFor_of_name pn_com_example_cross_town_crosstown_solve_NodeHeapPollPinLaw) hisR ?_
  intro p e s m args below meth c s₁ Bd hml0 hP hK
  obtain ⟨rfl, hZ, hh⟩ := hP
  have hx := Bd.exec
  have hby := Bd.bytes
  have hml : c.maxLocals = 1 := hml0
  have hown : s.vm.findClass "com/example/cross_town/crosstown/solve/NodeHeapPollPinLaw" = some m.cls := findClass_of_methodNamed Bd.named
  have hnm := (name_of_methodNamed Bd.named Bd.method).1
  have X0 : Stand p l e ({ frames := 1, cells := 0, slots := 0, locals := 17 } : Room) s m #[(.ref o0)] below meth c s₁ [] 0 0 := Stand.of_body Bd
  have eH0 : s₁.heap = h0 := by rw [← hh, Bd.state]; rfl
  have N0 := Fr.nil n0
  show Gt p.tables e below (fun o U' => ∃ v L, o = .returned v ∧ Q7 Z o0 A h0 n0 v U'.heap L ∧ FrameEnd s o U' L ({ frames := 1, cells := 0, slots := 0, locals := 17 } : Room).cells ({ frames := 1, cells := 0, slots := 0, locals := 17 } : Room).slots) _
  refine own_cast (ef7 m o0) ?_
  refine own_aloadN X0 hx hby rfl rfl d7_0 (pc' := 1) rfl ?_
  refine own_iconst X0 hx hby (v := (0 : Int32)) (by decide) d7_1 (pc' := 2) rfl ?_
  refine own_laload X0 hx hby hZ eH0 V_o0 (by decide) (v := (.long (A.getD 0 0))) (own_lget (i := 0) (by rw [hl_A]; decide)) d7_2 (pc' := 3) rfl ?_
  refine own_aloadN X0 hx hby rfl rfl d7_3 (pc' := 4) rfl ?_
  refine own_iconst X0 hx hby (v := (1 : Int32)) (by decide) d7_4 (pc' := 5) rfl ?_
  refine own_laload X0 hx hby hZ eH0 V_o0 (by decide) (v := (.long (A.getD 1 0))) (own_lget (i := 1) (by rw [hl_A]; decide)) d7_5 (pc' := 6) rfl ?_
  refine own_static X0 hx hby hZ (y := (⟨"java/lang/Math", "min", "(JJ)J"⟩ : MethodName)) (rest := []) hown (hw _ (List.mem_of_getElem? (i := 41) rfl)) (hw _ (List.mem_of_getElem? (i := 42) rfl)) (hw _ (List.mem_of_getElem? (i := 44) rfl)) (hw _ (List.mem_of_getElem? (i := 43) rfl)) (by decide) (rm8 l Z a0 hw [] (A.getD 0 0) (A.getD 1 0) h0 n0 Z0) eH0 (by rw [hml]; rfl) (argsL := [(.long (A.getD 0 0)), (.long (A.getD 1 0))]) rfl (lenOf pd_2 rfl) rfl d7_6 (pc' := 9) rfl (by decide) (W := 0) (Nat.le_of_eq rfl) (by decide) (by decide) (by decide) (fun T1 h1 Lc1 v1r X1 eH1 hQ1 => ?_)
  obtain ⟨rfl, Nq1, rfl⟩ := hQ1
  have N1 := Fr.app N0 Nq1
  refine own_aloadN X1 hx hby rfl rfl d7_9 (pc' := 10) rfl ?_
  refine own_iconst X1 hx hby (v := (2 : Int32)) (by decide) d7_10 (pc' := 11) rfl ?_
  refine own_laload X1 hx hby hZ eH1 V_o0 (by decide) (v := (.long (A.getD 2 0))) (own_lget (i := 2) (by rw [hl_A]; decide)) d7_11 (pc' := 12) rfl ?_
  refine own_aloadN X1 hx hby rfl rfl d7_12 (pc' := 13) rfl ?_
  refine own_iconst X1 hx hby (v := (3 : Int32)) (by decide) d7_13 (pc' := 14) rfl ?_
  refine own_laload X1 hx hby hZ eH1 V_o0 (by decide) (v := (.long (A.getD 3 0))) (own_lget (i := 3) (by rw [hl_A]; decide)) d7_14 (pc' := 15) rfl ?_
  refine own_static X1 hx hby hZ (y := (⟨"java/lang/Math", "min", "(JJ)J"⟩ : MethodName)) (rest := [(.long (if (A.getD 1 0) < (A.getD 0 0) then (A.getD 1 0) else (A.getD 0 0)))]) hown (hw _ (List.mem_of_getElem? (i := 41) rfl)) (hw _ (List.mem_of_getElem? (i := 42) rfl)) (hw _ (List.mem_of_getElem? (i := 44) rfl)) (hw _ (List.mem_of_getElem? (i := 43) rfl)) (by decide) (rm8 l Z a0 hw [] (A.getD 2 0) (A.getD 3 0) h0 n0 Z0) eH1 (by rw [hml]; rfl) (argsL := [(.long (A.getD 2 0)), (.long (A.getD 3 0))]) rfl (lenOf pd_2 rfl) rfl d7_15 (pc' := 18) rfl (by decide) (W := 2) (Nat.le_of_eq rfl) (by decide) (by decide) (by decide) (fun T2 h2 Lc2 v2r X2 eH2 hQ2 => ?_)
  obtain ⟨rfl, Nq2, rfl⟩ := hQ2
  have N2 := Fr.app N1 Nq2
  refine own_static X2 hx hby hZ (y := (⟨"java/lang/Math", "min", "(JJ)J"⟩ : MethodName)) (rest := []) hown (hw _ (List.mem_of_getElem? (i := 41) rfl)) (hw _ (List.mem_of_getElem? (i := 42) rfl)) (hw _ (List.mem_of_getElem? (i := 44) rfl)) (hw _ (List.mem_of_getElem? (i := 43) rfl)) (by decide) (rm8 l Z a0 hw [] (if (A.getD 1 0) < (A.getD 0 0) then (A.getD 1 0) else (A.getD 0 0)) (if (A.getD 3 0) < (A.getD 2 0) then (A.getD 3 0) else (A.getD 2 0)) h0 n0 Z0) eH2 (by rw [hml]; rfl) (argsL := [(.long (if (A.getD 1 0) < (A.getD 0 0) then (A.getD 1 0) else (A.getD 0 0))), (.long (if (A.getD 3 0) < (A.getD 2 0) then (A.getD 3 0) else (A.getD 2 0)))]) rfl (lenOf pd_2 rfl) rfl d7_18 (pc' := 21) rfl (by decide) (W := 0) (Nat.le_of_eq rfl) (by decide) (by decide) (by decide) (fun T3 h3 Lc3 v3r X3 eH3 hQ3 => ?_)
  obtain ⟨rfl, Nq3, rfl⟩ := hQ3
  have N3 := Fr.app N2 Nq3
  exact own_retL X3 hx hby Bd.notSynchronized Bd.returns d7_21 (by decide) (by decide) eH3 ⟨rfl, N3, rfl⟩
theorem ef11 (m : MethodId) (x0 : Int32) : entryFrame m #[(.int x0)] 1 = mkF m 0 #[.val (.int x0)] [] := by first | (simp [entryFrame, mkF, argsToLocals, Value.category]; done) | rfl
def Q11 (Z : State) (p0 : Int32) (h0 : Heap) (n0 : Nat) (v : Option Value) (h : Heap) (L : List Loc) : Prop := v = some (.int (if p0 < 0 then (0 : Int32) else (if (3 : Int32) < p0 then (0 : Int32) else (1 : Int32)))) ∧ Fr n0 L ∧ h0 = h
set_option maxRecDepth 65536 in
set_option maxHeartbeats 40000000 in
theorem rm11 (l : Launch) (Z : State) (a0 : Array Value) (hw : ∀ d ∈ tables_1, d.before a0 Z = true) (ws : List Jvm.Cond) (p0 : Int32) (h0 : Heap) (n0 : Nat) (Z0 : n0 ≤ h0.size) :
    MetFree l (⟨"com/example/cross_town/crosstown/solve/NodeHeapPollPinLaw", "ok", "(I)Z"⟩ : MethodName) (head1 (Jvm.Cond.code (⟨"com/example/cross_town/crosstown/solve/NodeHeapPollPinLaw", "ok", "(I)Z"⟩ : MethodName) method_3_code 1 (some .boolean) :: ws) ({ frames := 0, cells := 0, slots := 0, locals := 0 } : Room)) (fun a U => a = #[(.int p0)] ∧ Z.Warmed39 U.vm ∧ U.heap = h0) (fun _ _ _ _ _ => True) (fun _ U o U' => ∃ v L, o = .returned v ∧ Q11 Z p0 h0 n0 v U'.heap L ∧ FrameEnd U o U' L ({ frames := 0, cells := 0, slots := 0, locals := 0 } : Room).cells ({ frames := 0, cells := 0, slots := 0, locals := 0 } : Room).slots) := by
  refine MetFree.of_bodySF (plainFor_of_name pn_com_example_cross_town_crosstown_solve_NodeHeapPollPinLaw) hisR ?_
  intro p e s m args below meth c s₁ Bd hml0 hP hK
  obtain ⟨rfl, hZ, hh⟩ := hP
  have hx := Bd.exec
  have hby := Bd.bytes
  have hml : c.maxLocals = 1 := hml0
  have hown : s.vm.findClass "com/example/cross_town/crosstown/solve/NodeHeapPollPinLaw" = some m.cls := findClass_of_methodNamed Bd.named
  have hnm := (name_of_methodNamed Bd.named Bd.method).1
  have X0 : Stand p l e ({ frames := 0, cells := 0, slots := 0, locals := 0 } : Room) s m #[(.int p0)] below meth c s₁ [] 0 0 := Stand.of_body Bd
  have eH0 : s₁.heap = h0 := by rw [← hh, Bd.state]; rfl
  have N0 := Fr.nil n0
  show Gt p.tables e below (fun o U' => ∃ v L, o = .returned v ∧ Q11 Z p0 h0 n0 v U'.heap L ∧ FrameEnd s o U' L ({ frames := 0, cells := 0, slots := 0, locals := 0 } : Room).cells ({ frames := 0, cells := 0, slots := 0, locals := 0 } : Room).slots) _
  refine own_cast (ef11 m p0) ?_
  refine own_iloadN X0 hx hby rfl d11_0 (pc' := 1) rfl ?_
  by_cases hc1 : p0 < 0
  · refine own_ifT X0 hx hby d11_1 (own_i0_lt_p hc1) (by decide) (pc' := 13) (by decide) ?_
    refine own_iconst X0 hx hby (v := (0 : Int32)) (by decide) d11_13 (pc' := 14) rfl ?_
    exact own_retZ X0 hx hby Bd.notSynchronized Bd.returns (Or.inl rfl) d11_14 (by decide) (by decide) eH0 ⟨(by rw [if_pos hc1]), N0, rfl⟩
  · refine own_ifF X0 hx hby d11_1 (own_i0_lt_n hc1) (pc' := 4) rfl ?_
    refine own_iloadN X0 hx hby rfl d11_4 (pc' := 5) rfl ?_
    refine own_iconst X0 hx hby (v := (3 : Int32)) (by decide) d11_5 (pc' := 6) rfl ?_
    by_cases hc2 : (3 : Int32) < p0
    · refine own_icT X0 hx hby d11_6 (own_ic_gt_p hc2) (by decide) (pc' := 13) (by decide) ?_
      refine own_iconst X0 hx hby (v := (0 : Int32)) (by decide) d11_13 (pc' := 14) rfl ?_
      exact own_retZ X0 hx hby Bd.notSynchronized Bd.returns (Or.inl rfl) d11_14 (by decide) (by decide) eH0 ⟨(by rw [if_neg hc1, if_pos hc2]), N0, rfl⟩
    · refine own_icF X0 hx hby d11_6 (own_ic_gt_n hc2) (pc' := 9) rfl ?_
      refine own_iconst X0 hx hby (v := (1 : Int32)) (by decide) d11_9 (pc' := 10) rfl ?_
      refine own_goto X0 hx hby d11_10 (by decide) (pc' := 14) (by decide) ?_
      exact own_retZ X0 hx hby Bd.notSynchronized Bd.returns (Or.inr rfl) d11_14 (by decide) (by decide) eH0 ⟨(by rw [if_neg hc1, if_neg hc2]), N0, rfl⟩
theorem ef0 (m : MethodId) (x0 : Int32) (x1 : Int32) (x2 : Int32) (x3 : Int32) (x4 : Int32) : entryFrame m #[(.int x0), (.int x1), (.int x2), (.int x3), (.int x4)] maxLocals = mkF m 0 #[.val (.int x0), .val (.int x1), .val (.int x2), .val (.int x3), .val (.int x4), .unset, .unset, .unset, .unset, .unset, .unset, .unset, .unset, .unset, .unset, .unset] [] := by first | (simp [entryFrame, mkF, argsToLocals, Value.category, maxLocals]; done) | rfl
def Q0 (Z : State) (p0 : Int32) (p1 : Int32) (p2 : Int32) (p3 : Int32) (p4 : Int32) (h0 : Heap) (n0 : Nat) (v : Option Value) (h : Heap) (L : List Loc) : Prop := v = some (.int 1) ∧ Fr n0 L
set_option maxRecDepth 65536 in
set_option maxHeartbeats 40000000 in
theorem rm0 (l : Launch) (Z : State) (a0 : Array Value) (hw : ∀ d ∈ tables_1, d.before a0 Z = true) (ws : List Jvm.Cond) (p0 : Int32) (p1 : Int32) (p2 : Int32) (p3 : Int32) (p4 : Int32) (h0 : Heap) (n0 : Nat) (Z0 : n0 ≤ h0.size) :
    MetFree l x (head1 (Jvm.Cond.code x code maxLocals ret :: ws) room_1) (fun a U => a = #[(.int p0), (.int p1), (.int p2), (.int p3), (.int p4)] ∧ Z.Warmed39 U.vm ∧ U.heap = h0) (fun _ _ _ _ _ => True) (fun _ U o U' => ∃ v L, o = .returned v ∧ Q0 Z p0 p1 p2 p3 p4 h0 n0 v U'.heap L ∧ FrameEnd U o U' L 24 128) := by
  refine MetFree.of_bodySF (plainFor_of_name pn_com_example_cross_town_crosstown_solve_NodeHeapPollPinLaw) hisR ?_
  intro p e s m args below meth c s₁ Bd hml0 hP hK
  obtain ⟨rfl, hZ, hh⟩ := hP
  have hx := Bd.exec
  have hby := Bd.bytes
  have hml : c.maxLocals = 16 := hml0
  have hown : s.vm.findClass "com/example/cross_town/crosstown/solve/NodeHeapPollPinLaw" = some m.cls := findClass_of_methodNamed Bd.named
  have hnm := (name_of_methodNamed Bd.named Bd.method).1
  have X0 : Stand p l e room_1 s m #[(.int p0), (.int p1), (.int p2), (.int p3), (.int p4)] below meth c s₁ [] 0 0 := Stand.of_body Bd
  have eH0 : s₁.heap = h0 := by rw [← hh, Bd.state]; rfl
  have N0 := Fr.nil n0
  show Gt p.tables e below (fun o U' => ∃ v L, o = .returned v ∧ Q0 Z p0 p1 p2 p3 p4 h0 n0 v U'.heap L ∧ FrameEnd s o U' L 24 128) _
  refine own_cast (ef0 m p0 p1 p2 p3 p4) ?_
  refine own_iconst X0 hx hby (v := (4 : Int32)) (by decide) at_0 (pc' := 1) rfl ?_
  refine own_newP X0 hx hby hZ (hw _ (List.mem_of_getElem? (i := 0) rfl)) eH0 at_1 (pc' := 3) rfl (by decide) (N := 4) (by decide) (cap := 4) (by decide) (by decide) (by decide) (by decide) (ad := "[J") (by decide) (fun T1 h1 b1 X1 eH1 E1 g1 E_b1 V_b1 => ?_)
  have g_b1 : n0 ≤ b1 := g1 ▸ Z0
  replace Z0 := Nat.le_trans Z0 E1.1
  have V_b1 : Ary tr Z h1 b1 .long [(.long (0 : Int64)), (.long (0 : Int64)), (.long (0 : Int64)), (.long (0 : Int64))] := V_b1
  refine own_dup X1 hx hby rfl at_3 (pc' := 4) rfl ?_
  refine own_iconst X1 hx hby (v := (0 : Int32)) (by decide) at_4 (pc' := 5) rfl ?_
  refine own_iloadN X1 hx hby rfl at_5 (pc' := 6) rfl ?_
  refine own_i2l X1 hx hby rfl at_6 (pc' := 7) rfl ?_
  refine own_lastore X1 hx hby hZ eH1 V_b1 (by decide) (n := 0) (by decide) (of_decide_eq_true rfl) at_7 (pc' := 8) rfl (fun T2 h2 X2 eH2 W2 => ?_)
  replace E_b1 := E_b1.wr W2
  have N2 := Fr.snoc X2 N0 g_b1
  replace Z0 := Nat.le_trans Z0 (Nat.le_of_eq W2.size.symm)
  replace V_b1 : Ary tr Z h2 b1 .long [(.long (p0.toInt64)), (.long (0 : Int64)), (.long (0 : Int64)), (.long (0 : Int64))] := V_b1.set W2
  refine own_dup X2 hx hby rfl at_8 (pc' := 9) rfl ?_
  refine own_iconst X2 hx hby (v := (1 : Int32)) (by decide) at_9 (pc' := 10) rfl ?_
  refine own_iloadN X2 hx hby rfl at_10 (pc' := 11) rfl ?_
  refine own_i2l X2 hx hby rfl at_11 (pc' := 12) rfl ?_
  refine own_lastore X2 hx hby hZ eH2 V_b1 (by decide) (n := 1) (by decide) (of_decide_eq_true rfl) at_12 (pc' := 13) rfl (fun T3 h3 X3 eH3 W3 => ?_)
  replace E_b1 := E_b1.wr W3
  have N3 := Fr.snoc X3 N2 g_b1
  replace Z0 := Nat.le_trans Z0 (Nat.le_of_eq W3.size.symm)
  replace V_b1 : Ary tr Z h3 b1 .long [(.long (p0.toInt64)), (.long (p1.toInt64)), (.long (0 : Int64)), (.long (0 : Int64))] := V_b1.set W3
  refine own_dup X3 hx hby rfl at_13 (pc' := 14) rfl ?_
  refine own_iconst X3 hx hby (v := (2 : Int32)) (by decide) at_14 (pc' := 15) rfl ?_
  refine own_iloadN X3 hx hby rfl at_15 (pc' := 16) rfl ?_
  refine own_i2l X3 hx hby rfl at_16 (pc' := 17) rfl ?_
  refine own_lastore X3 hx hby hZ eH3 V_b1 (by decide) (n := 2) (by decide) (of_decide_eq_true rfl) at_17 (pc' := 18) rfl (fun T4 h4 X4 eH4 W4 => ?_)
  replace E_b1 := E_b1.wr W4
  have N4 := Fr.snoc X4 N3 g_b1
  replace Z0 := Nat.le_trans Z0 (Nat.le_of_eq W4.size.symm)
  replace V_b1 : Ary tr Z h4 b1 .long [(.long (p0.toInt64)), (.long (p1.toInt64)), (.long (p2.toInt64)), (.long (0 : Int64))] := V_b1.set W4
  refine own_dup X4 hx hby rfl at_18 (pc' := 19) rfl ?_
  refine own_iconst X4 hx hby (v := (3 : Int32)) (by decide) at_19 (pc' := 20) rfl ?_
  refine own_iloadN X4 hx hby rfl at_20 (pc' := 21) rfl ?_
  refine own_i2l X4 hx hby rfl at_21 (pc' := 22) rfl ?_
  refine own_lastore X4 hx hby hZ eH4 V_b1 (by decide) (n := 3) (by decide) (of_decide_eq_true rfl) at_22 (pc' := 23) rfl (fun T5 h5 X5 eH5 W5 => ?_)
  replace E_b1 := E_b1.wr W5
  have N5 := Fr.snoc X5 N4 g_b1
  replace Z0 := Nat.le_trans Z0 (Nat.le_of_eq W5.size.symm)
  replace V_b1 : Ary tr Z h5 b1 .long [(.long (p0.toInt64)), (.long (p1.toInt64)), (.long (p2.toInt64)), (.long (p3.toInt64))] := V_b1.set W5
  refine own_astore X5 hx hby rfl (L' := #[.val (.int p0), .val (.int p1), .val (.int p2), .val (.int p3), .val (.int p4), .val (.ref b1), .unset, .unset, .unset, .unset, .unset, .unset, .unset, .unset, .unset, .unset]) rfl at_23 (pc' := 25) rfl ?_
  refine own_newO X5 hx hby hZ hown (hw _ (List.mem_of_getElem? (i := 1) rfl)) (hw _ (List.mem_of_getElem? (i := 2) rfl)) (hw _ (List.mem_of_getElem? (i := 3) rfl)) eH5 at_25 (pc' := 28) rfl (by decide) (by decide) (fun T6 h6 b6 X6 eH6 E6 g6 E_b6 D6 => ?_)
  have g_b6 : n0 ≤ b6 := g6 ▸ Z0
  have ne_b1_b6 : b1 ≠ b6 := Nat.ne_of_lt (g6 ▸ E_b1.lt)
  replace E_b1 := E_b1.ext E6
  replace V_b1 := V_b1.ext E6
  replace Z0 := Nat.le_trans Z0 E6.1
  have F_b6_heap : Fld Z h6 b6 "com/example/cross_town/crosstown/solve/NodeHeap" "heap" "[I" .null := D6 (Or.inr (hw _ (List.mem_of_getElem? (i := 12) rfl))) (ty := (.array .int)) (by decide)
  have F_b6_position : Fld Z h6 b6 "com/example/cross_town/crosstown/solve/NodeHeap" "position" "[I" .null := D6 (Or.inr (hw _ (List.mem_of_getElem? (i := 14) rfl))) (ty := (.array .int)) (by decide)
  have F_b6_key : Fld Z h6 b6 "com/example/cross_town/crosstown/solve/NodeHeap" "key" "[D" .null := D6 (Or.inr (hw _ (List.mem_of_getElem? (i := 17) rfl))) (ty := (.array .double)) (by decide)
  have F_b6_size : Fld Z h6 b6 "com/example/cross_town/crosstown/solve/NodeHeap" "size" "I" (.int (0 : Int32)) := D6 (Or.inl (hw _ (List.mem_of_getElem? (i := 28) rfl))) (ty := .int) (by decide)
  refine own_dup X6 hx hby rfl at_28 (pc' := 29) rfl ?_
  refine own_iconst X6 hx hby (v := (4 : Int32)) (by decide) at_29 (pc' := 30) rfl ?_
  refine own_special X6 hx hby hZ (y := (⟨"com/example/cross_town/crosstown/solve/NodeHeap", "<init>", "(I)V"⟩ : MethodName)) (rest := [(.ref b6)]) rfl hown (hw _ (List.mem_of_getElem? (i := 4) rfl)) (hw _ (List.mem_of_getElem? (i := 5) rfl)) rfl (hw _ (List.mem_of_getElem? (i := 6) rfl)) (hw _ (List.mem_of_getElem? (i := 3) rfl)) (by decide) (rm1 l Z a0 hw [] b6 .null .null .null (0 : Int32) h6 n0 Z0 F_b6_heap F_b6_position F_b6_key F_b6_size E_b6 g_b6) eH6 (by rw [hml]; rfl) (a := b6) (argsL := [(.int (4 : Int32))]) rfl (lenOf pd_3 rfl) rfl at_30 (pc' := 33) rfl (by decide) (W := 1) (Nat.le_of_eq rfl) (by decide) (by decide) (by decide) (fun T7 h7 Lc7 v7r X7 eH7 hQ7 => ?_)
  obtain ⟨b2_7, b4_7, b6_7, rfl, Nq7, Kq7, gq7_0, gq7_1, gq7_2, gq7_3, gq7_4, gq7_5, gq7_6, gq7_7, gq7_8, gq7_9, gq7_10, gq7_11, gq7_12, gq7_13, gq7_14, gq7_15, gq7_16⟩ := hQ7
  have N7 := Fr.app N5 Nq7
  have g_b2_7 : n0 ≤ b2_7 := Nat.le_trans Z0 gq7_0
  have ne_b1_b2_7 : b1 ≠ b2_7 := Nat.ne_of_lt (Nat.lt_of_lt_of_le E_b1.lt gq7_0)
  have ne_b6_b2_7 : b6 ≠ b2_7 := Nat.ne_of_lt (Nat.lt_of_lt_of_le E_b6.lt gq7_0)
  have g_b4_7 : n0 ≤ b4_7 := Nat.le_trans Z0 gq7_1
  have ne_b1_b4_7 : b1 ≠ b4_7 := Nat.ne_of_lt (Nat.lt_of_lt_of_le E_b1.lt gq7_1)
  have ne_b6_b4_7 : b6 ≠ b4_7 := Nat.ne_of_lt (Nat.lt_of_lt_of_le E_b6.lt gq7_1)
  have g_b6_7 : n0 ≤ b6_7 := Nat.le_trans Z0 gq7_2
  have ne_b1_b6_7 : b1 ≠ b6_7 := Nat.ne_of_lt (Nat.lt_of_lt_of_le E_b1.lt gq7_2)
  have ne_b6_b6_7 : b6 ≠ b6_7 := Nat.ne_of_lt (Nat.lt_of_lt_of_le E_b6.lt gq7_2)
  replace E_b1 := E_b1.keep Kq7
  replace V_b1 := V_b1.keep Kq7 (ninS ne_b1_b6 nin0)
  replace E_b6 := E_b6.keep Kq7
  have ne_b2_7_b4_7 := gq7_3
  have ne_b2_7_b6_7 := gq7_4
  have ne_b4_7_b6_7 := gq7_5
  have E_b6 := gq7_6
  have F_b6_heap := gq7_7
  have F_b6_position := gq7_8
  have F_b6_key := gq7_9
  have F_b6_size := gq7_10
  have E_b2_7 := gq7_11
  have V_b2_7 := gq7_12
  have E_b4_7 := gq7_13
  have V_b4_7 := gq7_14
  have E_b6_7 := gq7_15
  have V_b6_7 := gq7_16
  replace Z0 := Nat.le_trans Z0 Kq7.1
  refine own_astore X7 hx hby rfl (L' := #[.val (.int p0), .val (.int p1), .val (.int p2), .val (.int p3), .val (.int p4), .val (.ref b1), .val (.ref b6), .unset, .unset, .unset, .unset, .unset, .unset, .unset, .unset, .unset]) rfl at_33 (pc' := 35) rfl ?_
  refine own_aload X7 hx hby rfl rfl at_35 (pc' := 37) rfl ?_
  refine own_iconst X7 hx hby (v := (0 : Int32)) (by decide) at_37 (pc' := 38) rfl ?_
  refine own_iloadN X7 hx hby rfl at_38 (pc' := 39) rfl ?_
  obtain ⟨v8, q_v8⟩ : ∃ z : UInt64, (FP.i2d p0) = z := ⟨_, rfl⟩
  have D_v8 : Dy v8 p0.toInt 0 := q_v8 ▸ dy_i2d p0
  refine own_i2d X7 hx hby q_v8 at_39 (pc' := 40) rfl ?_
  refine own_virtual X7 hx hby hZ (y := (⟨"com/example/cross_town/crosstown/solve/NodeHeap", "insertOrLower", "(ID)V"⟩ : MethodName)) (y' := (⟨"com/example/cross_town/crosstown/solve/NodeHeap", "insertOrLower", "(ID)V"⟩ : MethodName)) (C := "com/example/cross_town/crosstown/solve/NodeHeap") (rest := []) hown (hw _ (List.mem_of_getElem? (i := 22) rfl)) (hw _ (List.mem_of_getElem? (i := 23) rfl)) (notFace_of_selects (args := #[]) (mvT hZ (hw _ (List.mem_of_getElem? (i := 25) rfl)))) (hw _ (List.mem_of_getElem? (i := 25) rfl)) (hw _ (List.mem_of_getElem? (i := 24) rfl)) (hw _ (List.mem_of_getElem? (i := 26) rfl)) (hw _ (List.mem_of_getElem? (i := 3) rfl)) (by decide) (rm4n0 l Z a0 hw [] b6 (0 : Int32) v8 b2_7 b4_7 b6_7 (0 : Int32) (0 : Int32) (0 : Int32) (0 : Int32) ([(-1 : Int32), (-1 : Int32), (-1 : Int32), (-1 : Int32)]) ([(0 : UInt64), (0 : UInt64), (0 : UInt64), (0 : UInt64)]) h7 n0 Z0 E_b6 F_b6_heap F_b6_position F_b6_key F_b6_size V_b2_7 V_b4_7 (by first | assumption | rfl | (simp only [List.length_set]; first | assumption | rfl)) V_b6_7 (by first | assumption | rfl | (simp only [List.length_set]; first | assumption | rfl)) own_nk0 D_v8.1.ne_nan (by decide) (own_pv0 (by decide)) g_b6 (Ne.symm ne_b6_b2_7) (Ne.symm ne_b6_b4_7) (Ne.symm ne_b6_b6_7) g_b6_7 ne_b2_7_b6_7 ne_b4_7_b6_7 g_b2_7 (Ne.symm ne_b2_7_b4_7) g_b4_7) eH7 (by rw [hml]; rfl) (a := b6) E_b6 (argsL := [(.int (0 : Int32)), (.double v8)]) rfl (lenOf pd_4 rfl) rfl at_40 (pc' := 43) rfl (by decide) (W := 0) (Nat.le_of_eq rfl) (by decide) (by decide) (by decide) (fun T9 h9 Lc9 v9r X9 eH9 hQ9 => ?_)
  obtain ⟨rfl, Nq9, Kq9, gq9_0, gq9_1, gq9_2, gq9_3, gq9_4, gq9_5, gq9_6, gq9_7, gq9_8, gq9_9, gq9_10⟩ := hQ9
  have N9 := Fr.app N7 Nq9
  replace E_b1 := E_b1.keep Kq9
  replace V_b1 := V_b1.keep Kq9 (ninS ne_b1_b6 (ninS ne_b1_b6_7 (ninS ne_b1_b2_7 (ninS ne_b1_b4_7 nin0))))
  replace E_b6 := E_b6.keep Kq9
  replace E_b2_7 := E_b2_7.keep Kq9
  replace E_b4_7 := E_b4_7.keep Kq9
  replace E_b6_7 := E_b6_7.keep Kq9
  have E_b6 := gq9_0
  have F_b6_heap := gq9_1
  have F_b6_position := gq9_2
  have F_b6_key := gq9_3
  have F_b6_size := gq9_4
  have hl10 : ([(0 : UInt64), (0 : UInt64), (0 : UInt64), (0 : UInt64)].set (0 : Int32).toNatClampNeg v8).length = 4 := by (repeat' split) <;> (simp only [List.length_set]; first | assumption | rfl)
  obtain ⟨L11, q_L11⟩ : ∃ z, ([(0 : UInt64), (0 : UInt64), (0 : UInt64), (0 : UInt64)].set (0 : Int32).toNatClampNeg v8) = z := ⟨_, rfl⟩
  rw [q_L11] at gq9_5 hl10
  have V_b6_7 := gq9_5
  have V_b2_7 := gq9_6
  have hl12 : ([(-1 : Int32), (-1 : Int32), (-1 : Int32), (-1 : Int32)].set (0 : Int32).toNatClampNeg (0 : Int32)).length = 4 := by (repeat' split) <;> (simp only [List.length_set]; first | assumption | rfl)
  obtain ⟨L13, q_L13⟩ : ∃ z, ([(-1 : Int32), (-1 : Int32), (-1 : Int32), (-1 : Int32)].set (0 : Int32).toNatClampNeg (0 : Int32)) = z := ⟨_, rfl⟩
  rw [q_L13] at gq9_7 hl12
  have V_b4_7 := gq9_7
  have hp_9 : Hp1 (0 : Int32) L13 L11 := by rw [← q_L11, ← q_L13]; exact gq9_8
  have nnk_9 : NNk L11 := by rw [← q_L11]; exact gq9_9
  have ab_9 : ∀ z : Int32, (0 ≤ z.toInt ∧ z.toInt < 4) → ¬ (0 : Int32).toInt = z.toInt → pv [(-1 : Int32), (-1 : Int32), (-1 : Int32), (-1 : Int32)] z = -1 → pv L13 z = -1 := by rw [← q_L13]; exact gq9_10
  replace Z0 := Nat.le_trans Z0 Kq9.1
  refine own_aload X9 hx hby rfl rfl at_43 (pc' := 45) rfl ?_
  refine own_iconst X9 hx hby (v := (1 : Int32)) (by decide) at_45 (pc' := 46) rfl ?_
  refine own_iloadN X9 hx hby rfl at_46 (pc' := 47) rfl ?_
  as_aux_lemma =>
    obtain ⟨v14, q_v14⟩ : ∃ z : UInt64, (FP.i2d p1) = z := ⟨_, rfl⟩
    have D_v14 : Dy v14 p1.toInt 0 := q_v14 ▸ dy_i2d p1
    refine own_i2d X9 hx hby q_v14 at_47 (pc' := 48) rfl ?_
    refine own_virtual X9 hx hby hZ (y := (⟨"com/example/cross_town/crosstown/solve/NodeHeap", "insertOrLower", "(ID)V"⟩ : MethodName)) (y' := (⟨"com/example/cross_town/crosstown/solve/NodeHeap", "insertOrLower", "(ID)V"⟩ : MethodName)) (C := "com/example/cross_town/crosstown/solve/NodeHeap") (rest := []) hown (hw _ (List.mem_of_getElem? (i := 22) rfl)) (hw _ (List.mem_of_getElem? (i := 23) rfl)) (notFace_of_selects (args := #[]) (mvT hZ (hw _ (List.mem_of_getElem? (i := 25) rfl)))) (hw _ (List.mem_of_getElem? (i := 25) rfl)) (hw _ (List.mem_of_getElem? (i := 24) rfl)) (hw _ (List.mem_of_getElem? (i := 26) rfl)) (hw _ (List.mem_of_getElem? (i := 3) rfl)) (by decide) (rm4n1 l Z a0 hw [] b6 (1 : Int32) v14 b2_7 b4_7 b6_7 (0 : Int32) (0 : Int32) (0 : Int32) (0 : Int32) L13 L11 h9 n0 Z0 E_b6 F_b6_heap F_b6_position F_b6_key F_b6_size V_b2_7 V_b4_7 (by first | assumption | rfl | (simp only [List.length_set]; first | assumption | rfl)) V_b6_7 (by first | assumption | rfl | (simp only [List.length_set]; first | assumption | rfl)) nnk_9 D_v14.1.ne_nan (by decide) (ab_9 (1 : Int32) (by decide) (by decide) (own_pv0 (by decide))) hp_9 g_b6 (Ne.symm ne_b6_b2_7) (Ne.symm ne_b6_b4_7) (Ne.symm ne_b6_b6_7) g_b6_7 ne_b2_7_b6_7 ne_b4_7_b6_7 g_b2_7 (Ne.symm ne_b2_7_b4_7) g_b4_7) eH9 (by rw [hml]; rfl) (a := b6) E_b6 (argsL := [(.int (1 : Int32)), (.double v14)]) rfl (lenOf pd_4 rfl) rfl at_48 (pc' := 51) rfl (by decide) (W := 0) (Nat.le_of_eq rfl) (by decide) (by decide) (by decide) (fun T15 h15 Lc15 v15r X15 eH15 hQ15 => ?_)
    obtain ⟨rfl, Nq15, Kq15, gq15_0, gq15_1, gq15_2, gq15_3, gq15_4, gq15_5, gq15_6, gq15_7, gq15_8, gq15_9, gq15_10⟩ := hQ15
    have N15 := Fr.app N9 Nq15
    replace E_b1 := E_b1.keep Kq15
    replace V_b1 := V_b1.keep Kq15 (ninS ne_b1_b6 (ninS ne_b1_b6_7 (ninS ne_b1_b2_7 (ninS ne_b1_b4_7 nin0))))
    replace E_b6 := E_b6.keep Kq15
    replace E_b2_7 := E_b2_7.keep Kq15
    replace E_b4_7 := E_b4_7.keep Kq15
    replace E_b6_7 := E_b6_7.keep Kq15
    have E_b6 := gq15_0
    have F_b6_heap := gq15_1
    have F_b6_position := gq15_2
    have F_b6_key := gq15_3
    have F_b6_size := gq15_4
    have hl16 : (L11.set (1 : Int32).toNatClampNeg v14).length = 4 := by (repeat' split) <;> (simp only [List.length_set]; first | assumption | rfl)
    obtain ⟨L17, q_L17⟩ : ∃ z, (L11.set (1 : Int32).toNatClampNeg v14) = z := ⟨_, rfl⟩
    rw [q_L17] at gq15_5 hl16
    have V_b6_7 := gq15_5
    obtain ⟨n18, q_n18⟩ : ∃ z : Int32, (if dle ((L11.set (1 : Int32).toNatClampNeg v14).getD (0 : Int32).toNatClampNeg 0) ((L11.set (1 : Int32).toNatClampNeg v14).getD (1 : Int32).toNatClampNeg 0) then (0 : Int32) else (1 : Int32)) = z := ⟨_, rfl⟩
    obtain ⟨n19, q_n19⟩ : ∃ z : Int32, (if dle ((L11.set (1 : Int32).toNatClampNeg v14).getD (0 : Int32).toNatClampNeg 0) ((L11.set (1 : Int32).toNatClampNeg v14).getD (1 : Int32).toNatClampNeg 0) then (1 : Int32) else (0 : Int32)) = z := ⟨_, rfl⟩
    have V_b2_7 : Ary tr Z h15 b2_7 .int [(.int n18), (.int n19), (.int (0 : Int32)), (.int (0 : Int32))] := by rw [← q_n18, ← q_n19]; exact gq15_6
    have hl20 : (if dle ((L11.set (1 : Int32).toNatClampNeg v14).getD (0 : Int32).toNatClampNeg 0) ((L11.set (1 : Int32).toNatClampNeg v14).getD (1 : Int32).toNatClampNeg 0) then (L13.set (1 : Int32).toNatClampNeg (1 : Int32)) else ((L13.set (0 : Int32).toNatClampNeg (1 : Int32)).set (1 : Int32).toNatClampNeg (0 : Int32))).length = 4 := by (repeat' split) <;> (simp only [List.length_set]; first | assumption | rfl)
    obtain ⟨L21, q_L21⟩ : ∃ z, (if dle ((L11.set (1 : Int32).toNatClampNeg v14).getD (0 : Int32).toNatClampNeg 0) ((L11.set (1 : Int32).toNatClampNeg v14).getD (1 : Int32).toNatClampNeg 0) then (L13.set (1 : Int32).toNatClampNeg (1 : Int32)) else ((L13.set (0 : Int32).toNatClampNeg (1 : Int32)).set (1 : Int32).toNatClampNeg (0 : Int32))) = z := ⟨_, rfl⟩
    rw [q_L21] at gq15_7 hl20
    have V_b4_7 := gq15_7
    have hp_15 : Hp2 n18 n19 L21 L17 := by rw [← q_L17, ← q_n19, ← q_n18, ← q_L21]; exact gq15_8
    have nnk_15 : NNk L17 := by rw [← q_L17]; exact gq15_9
    have ab_15 : ∀ z : Int32, (0 ≤ z.toInt ∧ z.toInt < 4) → ¬ (1 : Int32).toInt = z.toInt → pv L13 z = -1 → pv L21 z = -1 := by rw [← q_L21]; exact gq15_10
    replace Z0 := Nat.le_trans Z0 Kq15.1
    refine own_aload X15 hx hby rfl rfl at_51 (pc' := 53) rfl ?_
    refine own_iconst X15 hx hby (v := (2 : Int32)) (by decide) at_53 (pc' := 54) rfl ?_
    refine own_iloadN X15 hx hby rfl at_54 (pc' := 55) rfl ?_
    obtain ⟨v22, q_v22⟩ : ∃ z : UInt64, (FP.i2d p2) = z := ⟨_, rfl⟩
    have D_v22 : Dy v22 p2.toInt 0 := q_v22 ▸ dy_i2d p2
    refine own_i2d X15 hx hby q_v22 at_55 (pc' := 56) rfl ?_
    refine own_virtual X15 hx hby hZ (y := (⟨"com/example/cross_town/crosstown/solve/NodeHeap", "insertOrLower", "(ID)V"⟩ : MethodName)) (y' := (⟨"com/example/cross_town/crosstown/solve/NodeHeap", "insertOrLower", "(ID)V"⟩ : MethodName)) (C := "com/example/cross_town/crosstown/solve/NodeHeap") (rest := []) hown (hw _ (List.mem_of_getElem? (i := 22) rfl)) (hw _ (List.mem_of_getElem? (i := 23) rfl)) (notFace_of_selects (args := #[]) (mvT hZ (hw _ (List.mem_of_getElem? (i := 25) rfl)))) (hw _ (List.mem_of_getElem? (i := 25) rfl)) (hw _ (List.mem_of_getElem? (i := 24) rfl)) (hw _ (List.mem_of_getElem? (i := 26) rfl)) (hw _ (List.mem_of_getElem? (i := 3) rfl)) (by decide) (rm4n2 l Z a0 hw [] b6 (2 : Int32) v22 b2_7 b4_7 b6_7 n18 n19 (0 : Int32) (0 : Int32) L21 L17 h15 n0 Z0 E_b6 F_b6_heap F_b6_position F_b6_key F_b6_size V_b2_7 V_b4_7 (by first | assumption | rfl | (simp only [List.length_set]; first | assumption | rfl)) V_b6_7 (by first | assumption | rfl | (simp only [List.length_set]; first | assumption | rfl)) nnk_15 D_v22.1.ne_nan (by decide) (ab_15 (2 : Int32) (by decide) (by decide) (ab_9 (2 : Int32) (by decide) (by decide) (own_pv0 (by decide)))) hp_15 g_b6 (Ne.symm ne_b6_b2_7) (Ne.symm ne_b6_b4_7) (Ne.symm ne_b6_b6_7) g_b6_7 ne_b2_7_b6_7 ne_b4_7_b6_7 g_b2_7 (Ne.symm ne_b2_7_b4_7) g_b4_7) eH15 (by rw [hml]; rfl) (a := b6) E_b6 (argsL := [(.int (2 : Int32)), (.double v22)]) rfl (lenOf pd_4 rfl) rfl at_56 (pc' := 59) rfl (by decide) (W := 0) (Nat.le_of_eq rfl) (by decide) (by decide) (by decide) (fun T23 h23 Lc23 v23r X23 eH23 hQ23 => ?_)
    obtain ⟨rfl, Nq23, Kq23, gq23_0, gq23_1, gq23_2, gq23_3, gq23_4, gq23_5, gq23_6, gq23_7, gq23_8, gq23_9, gq23_10⟩ := hQ23
    have N23 := Fr.app N15 Nq23
    replace E_b1 := E_b1.keep Kq23
    replace V_b1 := V_b1.keep Kq23 (ninS ne_b1_b6 (ninS ne_b1_b6_7 (ninS ne_b1_b2_7 (ninS ne_b1_b4_7 nin0))))
    replace E_b6 := E_b6.keep Kq23
    replace E_b2_7 := E_b2_7.keep Kq23
    replace E_b4_7 := E_b4_7.keep Kq23
    replace E_b6_7 := E_b6_7.keep Kq23
    have E_b6 := gq23_0
    have F_b6_heap := gq23_1
    have F_b6_position := gq23_2
    have F_b6_key := gq23_3
    have F_b6_size := gq23_4
    have hl24 : (L17.set (2 : Int32).toNatClampNeg v22).length = 4 := by (repeat' split) <;> (simp only [List.length_set]; first | assumption | rfl)
    obtain ⟨L25, q_L25⟩ : ∃ z, (L17.set (2 : Int32).toNatClampNeg v22) = z := ⟨_, rfl⟩
    rw [q_L25] at gq23_5 hl24
    have V_b6_7 := gq23_5
    obtain ⟨n26, q_n26⟩ : ∃ z : Int32, (if dle ((L17.set (2 : Int32).toNatClampNeg v22).getD n18.toNatClampNeg 0) ((L17.set (2 : Int32).toNatClampNeg v22).getD (2 : Int32).toNatClampNeg 0) then n18 else (2 : Int32)) = z := ⟨_, rfl⟩
    obtain ⟨n27, q_n27⟩ : ∃ z : Int32, (if dle ((L17.set (2 : Int32).toNatClampNeg v22).getD n18.toNatClampNeg 0) ((L17.set (2 : Int32).toNatClampNeg v22).getD (2 : Int32).toNatClampNeg 0) then (2 : Int32) else n18) = z := ⟨_, rfl⟩
    have V_b2_7 : Ary tr Z h23 b2_7 .int [(.int n26), (.int n19), (.int n27), (.int (0 : Int32))] := by rw [← q_n26, ← q_n27]; exact gq23_6
    have hl28 : (if dle ((L17.set (2 : Int32).toNatClampNeg v22).getD n18.toNatClampNeg 0) ((L17.set (2 : Int32).toNatClampNeg v22).getD (2 : Int32).toNatClampNeg 0) then (L21.set (2 : Int32).toNatClampNeg (2 : Int32)) else ((L21.set n18.toNatClampNeg (2 : Int32)).set (2 : Int32).toNatClampNeg (0 : Int32))).length = 4 := by (repeat' split) <;> (simp only [List.length_set]; first | assumption | rfl)
    obtain ⟨L29, q_L29⟩ : ∃ z, (if dle ((L17.set (2 : Int32).toNatClampNeg v22).getD n18.toNatClampNeg 0) ((L17.set (2 : Int32).toNatClampNeg v22).getD (2 : Int32).toNatClampNeg 0) then (L21.set (2 : Int32).toNatClampNeg (2 : Int32)) else ((L21.set n18.toNatClampNeg (2 : Int32)).set (2 : Int32).toNatClampNeg (0 : Int32))) = z := ⟨_, rfl⟩
    rw [q_L29] at gq23_7 hl28
    have V_b4_7 := gq23_7
    have hp_23 : Hp3 n26 n19 n27 L29 L25 := by rw [← q_L25, ← q_n27, ← q_n26, ← q_L29]; exact gq23_8
    have nnk_23 : NNk L25 := by rw [← q_L25]; exact gq23_9
    have ab_23 : ∀ z : Int32, (0 ≤ z.toInt ∧ z.toInt < 4) → ¬ (2 : Int32).toInt = z.toInt → pv L21 z = -1 → pv L29 z = -1 := by rw [← q_L29]; exact gq23_10
    replace Z0 := Nat.le_trans Z0 Kq23.1
    refine own_aload X23 hx hby rfl rfl at_59 (pc' := 61) rfl ?_
    refine own_iconst X23 hx hby (v := (3 : Int32)) (by decide) at_61 (pc' := 62) rfl ?_
    refine own_iloadN X23 hx hby rfl at_62 (pc' := 63) rfl ?_
    obtain ⟨v30, q_v30⟩ : ∃ z : UInt64, (FP.i2d p3) = z := ⟨_, rfl⟩
    have D_v30 : Dy v30 p3.toInt 0 := q_v30 ▸ dy_i2d p3
    refine own_i2d X23 hx hby q_v30 at_63 (pc' := 64) rfl ?_
    refine own_virtual X23 hx hby hZ (y := (⟨"com/example/cross_town/crosstown/solve/NodeHeap", "insertOrLower", "(ID)V"⟩ : MethodName)) (y' := (⟨"com/example/cross_town/crosstown/solve/NodeHeap", "insertOrLower", "(ID)V"⟩ : MethodName)) (C := "com/example/cross_town/crosstown/solve/NodeHeap") (rest := []) hown (hw _ (List.mem_of_getElem? (i := 22) rfl)) (hw _ (List.mem_of_getElem? (i := 23) rfl)) (notFace_of_selects (args := #[]) (mvT hZ (hw _ (List.mem_of_getElem? (i := 25) rfl)))) (hw _ (List.mem_of_getElem? (i := 25) rfl)) (hw _ (List.mem_of_getElem? (i := 24) rfl)) (hw _ (List.mem_of_getElem? (i := 26) rfl)) (hw _ (List.mem_of_getElem? (i := 3) rfl)) (by decide) (rm4n3 l Z a0 hw [] b6 (3 : Int32) v30 b2_7 b4_7 b6_7 n26 n19 n27 (0 : Int32) L29 L25 h23 n0 Z0 E_b6 F_b6_heap F_b6_position F_b6_key F_b6_size V_b2_7 V_b4_7 (by first | assumption | rfl | (simp only [List.length_set]; first | assumption | rfl)) V_b6_7 (by first | assumption | rfl | (simp only [List.length_set]; first | assumption | rfl)) nnk_23 D_v30.1.ne_nan (by decide) (ab_23 (3 : Int32) (by decide) (by decide) (ab_15 (3 : Int32) (by decide) (by decide) (ab_9 (3 : Int32) (by decide) (by decide) (own_pv0 (by decide))))) hp_23 g_b6 (Ne.symm ne_b6_b2_7) (Ne.symm ne_b6_b4_7) (Ne.symm ne_b6_b6_7) g_b6_7 ne_b2_7_b6_7 ne_b4_7_b6_7 g_b2_7 (Ne.symm ne_b2_7_b4_7) g_b4_7) eH23 (by rw [hml]; rfl) (a := b6) E_b6 (argsL := [(.int (3 : Int32)), (.double v30)]) rfl (lenOf pd_4 rfl) rfl at_64 (pc' := 67) rfl (by decide) (W := 0) (Nat.le_of_eq rfl) (by decide) (by decide) (by decide) (fun T31 h31 Lc31 v31r X31 eH31 hQ31 => ?_)
    obtain ⟨rfl, Nq31, Kq31, gq31_0, gq31_1, gq31_2, gq31_3, gq31_4, gq31_5, gq31_6, gq31_7, gq31_8, gq31_9, gq31_10⟩ := hQ31
    have N31 := Fr.app N23 Nq31
    replace E_b1 := E_b1.keep Kq31
    replace V_b1 := V_b1.keep Kq31 (ninS ne_b1_b6 (ninS ne_b1_b6_7 (ninS ne_b1_b2_7 (ninS ne_b1_b4_7 nin0))))
    replace E_b6 := E_b6.keep Kq31
    replace E_b2_7 := E_b2_7.keep Kq31
    replace E_b4_7 := E_b4_7.keep Kq31
    replace E_b6_7 := E_b6_7.keep Kq31
    have E_b6 := gq31_0
    have F_b6_heap := gq31_1
    have F_b6_position := gq31_2
    have F_b6_key := gq31_3
    have F_b6_size := gq31_4
    have hl32 : (L25.set (3 : Int32).toNatClampNeg v30).length = 4 := by (repeat' split) <;> (simp only [List.length_set]; first | assumption | rfl)
    obtain ⟨L33, q_L33⟩ : ∃ z, (L25.set (3 : Int32).toNatClampNeg v30) = z := ⟨_, rfl⟩
    rw [q_L33] at gq31_5 hl32
    have V_b6_7 := gq31_5
    obtain ⟨n34, q_n34⟩ : ∃ z : Int32, (if dle ((L25.set (3 : Int32).toNatClampNeg v30).getD n19.toNatClampNeg 0) ((L25.set (3 : Int32).toNatClampNeg v30).getD (3 : Int32).toNatClampNeg 0) then n26 else (if dle ((L25.set (3 : Int32).toNatClampNeg v30).getD n26.toNatClampNeg 0) ((L25.set (3 : Int32).toNatClampNeg v30).getD (3 : Int32).toNatClampNeg 0) then n26 else (3 : Int32))) = z := ⟨_, rfl⟩
    obtain ⟨n35, q_n35⟩ : ∃ z : Int32, (if dle ((L25.set (3 : Int32).toNatClampNeg v30).getD n19.toNatClampNeg 0) ((L25.set (3 : Int32).toNatClampNeg v30).getD (3 : Int32).toNatClampNeg 0) then n19 else (if dle ((L25.set (3 : Int32).toNatClampNeg v30).getD n26.toNatClampNeg 0) ((L25.set (3 : Int32).toNatClampNeg v30).getD (3 : Int32).toNatClampNeg 0) then (3 : Int32) else n26)) = z := ⟨_, rfl⟩
    obtain ⟨n36, q_n36⟩ : ∃ z : Int32, (if dle ((L25.set (3 : Int32).toNatClampNeg v30).getD n19.toNatClampNeg 0) ((L25.set (3 : Int32).toNatClampNeg v30).getD (3 : Int32).toNatClampNeg 0) then (3 : Int32) else (if dle ((L25.set (3 : Int32).toNatClampNeg v30).getD n26.toNatClampNeg 0) ((L25.set (3 : Int32).toNatClampNeg v30).getD (3 : Int32).toNatClampNeg 0) then n19 else n19)) = z := ⟨_, rfl⟩
    have V_b2_7 : Ary tr Z h31 b2_7 .int [(.int n34), (.int n35), (.int n27), (.int n36)] := by rw [← q_n34, ← q_n35, ← q_n36]; exact gq31_6
    have hl37 : (if dle ((L25.set (3 : Int32).toNatClampNeg v30).getD n19.toNatClampNeg 0) ((L25.set (3 : Int32).toNatClampNeg v30).getD (3 : Int32).toNatClampNeg 0) then (L29.set (3 : Int32).toNatClampNeg (3 : Int32)) else (if dle ((L25.set (3 : Int32).toNatClampNeg v30).getD n26.toNatClampNeg 0) ((L25.set (3 : Int32).toNatClampNeg v30).getD (3 : Int32).toNatClampNeg 0) then ((L29.set n19.toNatClampNeg (3 : Int32)).set (3 : Int32).toNatClampNeg (1 : Int32)) else (((L29.set n19.toNatClampNeg (3 : Int32)).set n26.toNatClampNeg (1 : Int32)).set (3 : Int32).toNatClampNeg (0 : Int32)))).length = 4 := by (repeat' split) <;> (simp only [List.length_set]; first | assumption | rfl)
    obtain ⟨L38, q_L38⟩ : ∃ z, (if dle ((L25.set (3 : Int32).toNatClampNeg v30).getD n19.toNatClampNeg 0) ((L25.set (3 : Int32).toNatClampNeg v30).getD (3 : Int32).toNatClampNeg 0) then (L29.set (3 : Int32).toNatClampNeg (3 : Int32)) else (if dle ((L25.set (3 : Int32).toNatClampNeg v30).getD n26.toNatClampNeg 0) ((L25.set (3 : Int32).toNatClampNeg v30).getD (3 : Int32).toNatClampNeg 0) then ((L29.set n19.toNatClampNeg (3 : Int32)).set (3 : Int32).toNatClampNeg (1 : Int32)) else (((L29.set n19.toNatClampNeg (3 : Int32)).set n26.toNatClampNeg (1 : Int32)).set (3 : Int32).toNatClampNeg (0 : Int32)))) = z := ⟨_, rfl⟩
    rw [q_L38] at gq31_7 hl37
    have V_b4_7 := gq31_7
    have hp_31 : Hp4 n34 n35 n27 n36 L38 L33 := by rw [← q_L33, ← q_n36, ← q_n35, ← q_n34, ← q_L38]; exact gq31_8
    have nnk_31 : NNk L33 := by rw [← q_L33]; exact gq31_9
    have ab_31 : ∀ z : Int32, (0 ≤ z.toInt ∧ z.toInt < 4) → ¬ (3 : Int32).toInt = z.toInt → pv L29 z = -1 → pv L38 z = -1 := by rw [← q_L38]; exact gq31_10
    replace Z0 := Nat.le_trans Z0 Kq31.1
    obtain ⟨A, q_A⟩ : ∃ z : List Int64, [(p0.toInt64), (p1.toInt64), (p2.toInt64), (p3.toInt64)] = z := ⟨_, rfl⟩
    have hlA : A.length = 4 := by rw [← q_A]; rfl
    have V_b1 : Ary tr Z h31 b1 .long (A.map Value.long) := by rw [← q_A]; exact V_b1
    have eK : L33 = [v8, v14, v22, v30] := by rw [← q_L33, ← q_L25, ← q_L17, ← q_L11, own_t0, own_t1, own_t2, own_t3]; rfl
    have R4 : Rel L33 A := by rw [eK, ← q_A]; exact own_rel D_v8 D_v14 D_v22 D_v30
    refine own_aload X31 hx hby rfl rfl at_67 (pc' := 69) rfl ?_
    refine own_static X31 hx hby hZ (y := (⟨"com/example/cross_town/crosstown/solve/NodeHeapPollPinLaw", "min4", "([J)J"⟩ : MethodName)) (rest := []) hown (hw _ (List.mem_of_getElem? (i := 37) rfl)) (hw _ (List.mem_of_getElem? (i := 38) rfl)) (hw _ (List.mem_of_getElem? (i := 40) rfl)) (hw _ (List.mem_of_getElem? (i := 39) rfl)) (by decide) (rm7 l Z a0 hw [] b1 A h31 n0 Z0 V_b1 (by first | assumption | rfl | (simp only [List.length_set]; first | assumption | rfl))) eH31 (by rw [hml]; rfl) (argsL := [(.ref b1)]) rfl (lenOf pd_5 rfl) rfl at_69 (pc' := 72) rfl (by decide) (W := 0) (Nat.le_of_eq rfl) (by decide) (by decide) (by decide) (fun T39 h39 Lc39 v39r X39 eH39 hQ39 => ?_)
    obtain ⟨rfl, Nq39, rfl⟩ := hQ39
    have N39 := Fr.app N31 Nq39
    dsimp only [Option.toList, List.cons_append, List.nil_append]
    generalize q_r40 : (if (if (A.getD 3 0) < (A.getD 2 0) then (A.getD 3 0) else (A.getD 2 0)) < (if (A.getD 1 0) < (A.getD 0 0) then (A.getD 1 0) else (A.getD 0 0)) then (if (A.getD 3 0) < (A.getD 2 0) then (A.getD 3 0) else (A.getD 2 0)) else (if (A.getD 1 0) < (A.getD 0 0) then (A.getD 1 0) else (A.getD 0 0))) = r40
    refine own_lstore X39 hx hby (L' := #[.val (.int p0), .val (.int p1), .val (.int p2), .val (.int p3), .val (.int p4), .val (.ref b1), .val (.ref b6), .val (.long r40), .second, .unset, .unset, .unset, .unset, .unset, .unset, .unset]) rfl at_72 (pc' := 74) rfl ?_
    refine own_aload X39 hx hby rfl rfl at_74 (pc' := 76) rfl ?_
    refine own_virtual X39 hx hby hZ (y := (⟨"com/example/cross_town/crosstown/solve/NodeHeap", "poll", "()I"⟩ : MethodName)) (y' := (⟨"com/example/cross_town/crosstown/solve/NodeHeap", "poll", "()I"⟩ : MethodName)) (C := "com/example/cross_town/crosstown/solve/NodeHeap") (rest := []) hown (hw _ (List.mem_of_getElem? (i := 45) rfl)) (hw _ (List.mem_of_getElem? (i := 46) rfl)) (notFace_of_selects (args := #[]) (mvT hZ (hw _ (List.mem_of_getElem? (i := 48) rfl)))) (hw _ (List.mem_of_getElem? (i := 48) rfl)) (hw _ (List.mem_of_getElem? (i := 47) rfl)) (hw _ (List.mem_of_getElem? (i := 49) rfl)) (hw _ (List.mem_of_getElem? (i := 3) rfl)) (by decide) (rm94 l Z a0 hw [] b6 b2_7 b4_7 b6_7 n34 n35 n27 n36 L38 L33 h31 n0 Z0 E_b6 F_b6_heap F_b6_position F_b6_key V_b2_7 V_b4_7 (by first | assumption | rfl | (simp only [List.length_set]; first | assumption | rfl)) V_b6_7 (by first | assumption | rfl | (simp only [List.length_set]; first | assumption | rfl)) F_b6_size nnk_31 hp_31 g_b4_7 ne_b6_b4_7 ne_b2_7_b4_7 (Ne.symm ne_b4_7_b6_7) g_b6 (Ne.symm ne_b6_b2_7) (Ne.symm ne_b6_b6_7) g_b2_7 (Ne.symm ne_b2_7_b6_7)) eH39 (by rw [hml]; rfl) (a := b6) E_b6 (argsL := []) rfl (lenOf pd_6 rfl) rfl at_76 (pc' := 79) rfl (by decide) (W := 0) (Nat.le_of_eq rfl) (by decide) (by decide) (by decide) (fun T41 h41 Lc41 v41r X41 eH41 hQ41 => ?_)
    obtain ⟨rfl, Nq41, Kq41, gq41_0, gq41_1, gq41_2, gq41_3, gq41_4, gq41_5, gq41_6, gq41_7, gq41_8, gq41_9, gq41_10, gq41_11⟩ := hQ41
    have N41 := Fr.app N39 Nq41
    replace E_b1 := E_b1.keep Kq41
    replace V_b1 := V_b1.keep Kq41 (ninS ne_b1_b4_7 (ninS ne_b1_b6 (ninS ne_b1_b2_7 nin0)))
    replace E_b6 := E_b6.keep Kq41
    replace E_b2_7 := E_b2_7.keep Kq41
    replace E_b4_7 := E_b4_7.keep Kq41
    replace E_b6_7 := E_b6_7.keep Kq41
    replace V_b6_7 := V_b6_7.keep Kq41 (ninS (Ne.symm ne_b4_7_b6_7) (ninS (Ne.symm ne_b6_b6_7) (ninS (Ne.symm ne_b2_7_b6_7) nin0)))
    have hl42 : (if dlt (L33.getD n27.toNatClampNeg 0) (L33.getD n35.toNatClampNeg 0) then (if dle (L33.getD n36.toNatClampNeg 0) (L33.getD n27.toNatClampNeg 0) then ((L38.set n34.toNatClampNeg (-1 : Int32)).set n36.toNatClampNeg (0 : Int32)) else (((L38.set n34.toNatClampNeg (-1 : Int32)).set n27.toNatClampNeg (0 : Int32)).set n36.toNatClampNeg (2 : Int32))) else (if dle (L33.getD n36.toNatClampNeg 0) (L33.getD n35.toNatClampNeg 0) then ((L38.set n34.toNatClampNeg (-1 : Int32)).set n36.toNatClampNeg (0 : Int32)) else (((L38.set n34.toNatClampNeg (-1 : Int32)).set n35.toNatClampNeg (0 : Int32)).set n36.toNatClampNeg (1 : Int32)))).length = 4 := by (repeat' split) <;> (simp only [List.length_set]; first | assumption | rfl)
    obtain ⟨L43, q_L43⟩ : ∃ z, (if dlt (L33.getD n27.toNatClampNeg 0) (L33.getD n35.toNatClampNeg 0) then (if dle (L33.getD n36.toNatClampNeg 0) (L33.getD n27.toNatClampNeg 0) then ((L38.set n34.toNatClampNeg (-1 : Int32)).set n36.toNatClampNeg (0 : Int32)) else (((L38.set n34.toNatClampNeg (-1 : Int32)).set n27.toNatClampNeg (0 : Int32)).set n36.toNatClampNeg (2 : Int32))) else (if dle (L33.getD n36.toNatClampNeg 0) (L33.getD n35.toNatClampNeg 0) then ((L38.set n34.toNatClampNeg (-1 : Int32)).set n36.toNatClampNeg (0 : Int32)) else (((L38.set n34.toNatClampNeg (-1 : Int32)).set n35.toNatClampNeg (0 : Int32)).set n36.toNatClampNeg (1 : Int32)))) = z := ⟨_, rfl⟩
    rw [q_L43] at gq41_0 hl42
    have V_b4_7 := gq41_0
    have E_b6 := gq41_1
    have F_b6_heap := gq41_2
    have F_b6_position := gq41_3
    have F_b6_key := gq41_4
    have F_b6_size := gq41_5
    obtain ⟨n44, q_n44⟩ : ∃ z : Int32, (if dlt (L33.getD n27.toNatClampNeg 0) (L33.getD n35.toNatClampNeg 0) then (if dle (L33.getD n36.toNatClampNeg 0) (L33.getD n27.toNatClampNeg 0) then n36 else n27) else (if dle (L33.getD n36.toNatClampNeg 0) (L33.getD n35.toNatClampNeg 0) then n36 else n35)) = z := ⟨_, rfl⟩
    obtain ⟨n45, q_n45⟩ : ∃ z : Int32, (if dlt (L33.getD n27.toNatClampNeg 0) (L33.getD n35.toNatClampNeg 0) then (if dle (L33.getD n36.toNatClampNeg 0) (L33.getD n27.toNatClampNeg 0) then n35 else n35) else (if dle (L33.getD n36.toNatClampNeg 0) (L33.getD n35.toNatClampNeg 0) then n35 else n36)) = z := ⟨_, rfl⟩
    obtain ⟨n46, q_n46⟩ : ∃ z : Int32, (if dlt (L33.getD n27.toNatClampNeg 0) (L33.getD n35.toNatClampNeg 0) then (if dle (L33.getD n36.toNatClampNeg 0) (L33.getD n27.toNatClampNeg 0) then n27 else n36) else (if dle (L33.getD n36.toNatClampNeg 0) (L33.getD n35.toNatClampNeg 0) then n27 else n27)) = z := ⟨_, rfl⟩
    have V_b2_7 : Ary tr Z h41 b2_7 .int [(.int n44), (.int n45), (.int n46), (.int n36)] := by rw [← q_n44, ← q_n45, ← q_n46]; exact gq41_6
    have hp_41 : Hp3 n44 n45 n46 L43 L33 := by rw [← q_n46, ← q_n45, ← q_n44, ← q_L43]; exact gq41_7
    have ab_41 : ∀ z : Int32, (0 ≤ z.toInt ∧ z.toInt < 4) → pv L38 z = -1 → pv L43 z = -1 := by rw [← q_L43]; exact gq41_8
    have go_41 : pv L43 n34 = -1 := by rw [← q_L43]; exact gq41_9
    have rg_41 : 0 ≤ n34.toInt ∧ n34.toInt < 4 := gq41_10
    have mn_41 : kv L33 n34 ≤ kv L33 n44 ∧ kv L33 n34 ≤ kv L33 n45 ∧ kv L33 n34 ≤ kv L33 n46 := by rw [← q_n46, ← q_n45, ← q_n44]; exact gq41_11
    replace Z0 := Nat.le_trans Z0 Kq41.1
    as_aux_lemma =>
      refine own_istore X41 hx hby (L' := #[.val (.int p0), .val (.int p1), .val (.int p2), .val (.int p3), .val (.int p4), .val (.ref b1), .val (.ref b6), .val (.long r40), .second, .val (.int n34), .unset, .unset, .unset, .unset, .unset, .unset]) rfl at_79 (pc' := 81) rfl ?_
      have rg_n34 := rg_41
      refine own_iload X41 hx hby rfl at_81 (pc' := 83) rfl ?_
      refine own_static X41 hx hby hZ (y := (⟨"com/example/cross_town/crosstown/solve/NodeHeapPollPinLaw", "ok", "(I)Z"⟩ : MethodName)) (rest := []) hown (hw _ (List.mem_of_getElem? (i := 54) rfl)) (hw _ (List.mem_of_getElem? (i := 55) rfl)) (hw _ (List.mem_of_getElem? (i := 56) rfl)) (hw _ (List.mem_of_getElem? (i := 39) rfl)) (by decide) (rm11 l Z a0 hw [] n34 h41 n0 Z0) eH41 (by rw [hml]; rfl) (argsL := [(.int n34)]) rfl (lenOf pd_7 rfl) rfl at_83 (pc' := 86) rfl (by decide) (W := 0) (Nat.le_of_eq rfl) (by decide) (by decide) (by decide) (fun T47 h47 Lc47 v47r X47 eH47 hQ47 => ?_)
      obtain ⟨rfl, Nq47, rfl⟩ := hQ47
      have N47 := Fr.app N41 Nq47
      dsimp only [Option.toList, List.cons_append, List.nil_append]
      generalize q_r48 : (if n34 < 0 then (0 : Int32) else (if (3 : Int32) < n34 then (0 : Int32) else (1 : Int32))) = r48
      have hk49 : ¬ (r48 = 0) := own_okr rg_n34 q_r48
      refine own_ifT X47 hx hby at_86 (own_i0_ne_n hk49) (by decide) (pc' := 91) (by decide) ?_
      refine own_aload X47 hx hby rfl rfl at_91 (pc' := 93) rfl ?_
      refine own_iload X47 hx hby rfl at_93 (pc' := 95) rfl ?_
      refine own_laload X47 hx hby hZ eH47 V_b1 (own_rg0 rg_n34) (v := (.long (A.getD n34.toNatClampNeg 0))) (own_lget (own_rgl rg_n34 hlA)) at_95 (pc' := 96) rfl ?_
      refine own_lload X47 hx hby rfl at_96 (pc' := 98) rfl ?_
      generalize q_n50 : (A.getD n34.toNatClampNeg 0) = n50
      refine own_lcmp X47 hx hby rfl at_98 (pc' := 99) rfl ?_
      have hk51 : n50 = r40 := q_n50.symm.trans (own_isleast hp_31 R4 q_r40)
      refine own_ifT X47 hx hby at_99 (own_lc_eq_p hk51) (by decide) (pc' := 104) (by decide) ?_
      refine own_aload X47 hx hby rfl rfl at_104 (pc' := 106) rfl ?_
      refine own_iload X47 hx hby rfl at_106 (pc' := 108) rfl ?_
      refine own_iload X47 hx hby rfl at_108 (pc' := 110) rfl ?_
      refine own_i2l X47 hx hby rfl at_110 (pc' := 111) rfl ?_
      refine own_lastore X47 hx hby hZ eH47 V_b1 (own_rg0 rg_n34) (n := n34.toNatClampNeg) rfl (by rw [List.length_map]; exact own_rgl rg_n34 hlA) at_111 (pc' := 112) rfl (fun T52 h52 X52 eH52 W52 => ?_)
      replace E_b1 := E_b1.wr W52
      replace E_b6 := E_b6.wr W52
      replace F_b6_heap := F_b6_heap.other W52 (Or.inl (Ne.symm ne_b1_b6))
      replace F_b6_position := F_b6_position.other W52 (Or.inl (Ne.symm ne_b1_b6))
      replace F_b6_key := F_b6_key.other W52 (Or.inl (Ne.symm ne_b1_b6))
      replace F_b6_size := F_b6_size.other W52 (Or.inl (Ne.symm ne_b1_b6))
      replace E_b2_7 := E_b2_7.wr W52
      replace V_b2_7 := V_b2_7.other W52 (Ne.symm ne_b1_b2_7)
      replace E_b4_7 := E_b4_7.wr W52
      replace V_b4_7 := V_b4_7.other W52 (Ne.symm ne_b1_b4_7)
      replace E_b6_7 := E_b6_7.wr W52
      replace V_b6_7 := V_b6_7.other W52 (Ne.symm ne_b1_b6_7)
      have N52 := Fr.snoc X52 N47 g_b1
      replace Z0 := Nat.le_trans Z0 (Nat.le_of_eq W52.size.symm)
      have hl53 : (A.set n34.toNatClampNeg (p4.toInt64)).length = 4 := by rw [List.length_set]; exact hlA
      replace V_b1 : Ary tr Z h52 b1 .long ((A.set n34.toNatClampNeg (p4.toInt64)).map Value.long) := by rw [List.map_set]; exact V_b1.set W52
      refine own_aload X52 hx hby rfl rfl at_112 (pc' := 114) rfl ?_
      refine own_iload X52 hx hby rfl at_114 (pc' := 116) rfl ?_
      refine own_iload X52 hx hby rfl at_116 (pc' := 118) rfl ?_
      obtain ⟨v54, q_v54⟩ : ∃ z : UInt64, (FP.i2d p4) = z := ⟨_, rfl⟩
      have D_v54 : Dy v54 p4.toInt 0 := q_v54 ▸ dy_i2d p4
      refine own_i2d X52 hx hby q_v54 at_118 (pc' := 119) rfl ?_
      refine own_virtual X52 hx hby hZ (y := (⟨"com/example/cross_town/crosstown/solve/NodeHeap", "insertOrLower", "(ID)V"⟩ : MethodName)) (y' := (⟨"com/example/cross_town/crosstown/solve/NodeHeap", "insertOrLower", "(ID)V"⟩ : MethodName)) (C := "com/example/cross_town/crosstown/solve/NodeHeap") (rest := []) hown (hw _ (List.mem_of_getElem? (i := 22) rfl)) (hw _ (List.mem_of_getElem? (i := 23) rfl)) (notFace_of_selects (args := #[]) (mvT hZ (hw _ (List.mem_of_getElem? (i := 25) rfl)))) (hw _ (List.mem_of_getElem? (i := 25) rfl)) (hw _ (List.mem_of_getElem? (i := 24) rfl)) (hw _ (List.mem_of_getElem? (i := 26) rfl)) (hw _ (List.mem_of_getElem? (i := 3) rfl)) (by decide) (rm4n3 l Z a0 hw [] b6 n34 v54 b2_7 b4_7 b6_7 n44 n45 n46 n36 L43 L33 h52 n0 Z0 E_b6 F_b6_heap F_b6_position F_b6_key F_b6_size V_b2_7 V_b4_7 (by first | assumption | rfl | (simp only [List.length_set]; first | assumption | rfl)) V_b6_7 (by first | assumption | rfl | (simp only [List.length_set]; first | assumption | rfl)) nnk_31 D_v54.1.ne_nan rg_n34 go_41 hp_41 g_b6 (Ne.symm ne_b6_b2_7) (Ne.symm ne_b6_b4_7) (Ne.symm ne_b6_b6_7) g_b6_7 ne_b2_7_b6_7 ne_b4_7_b6_7 g_b2_7 (Ne.symm ne_b2_7_b4_7) g_b4_7) eH52 (by rw [hml]; rfl) (a := b6) E_b6 (argsL := [(.int n34), (.double v54)]) rfl (lenOf pd_4 rfl) rfl at_119 (pc' := 122) rfl (by decide) (W := 0) (Nat.le_of_eq rfl) (by decide) (by decide) (by decide) (fun T55 h55 Lc55 v55r X55 eH55 hQ55 => ?_)
      obtain ⟨rfl, Nq55, Kq55, gq55_0, gq55_1, gq55_2, gq55_3, gq55_4, gq55_5, gq55_6, gq55_7, gq55_8, gq55_9, gq55_10⟩ := hQ55
      have N55 := Fr.app N52 Nq55
      replace E_b1 := E_b1.keep Kq55
      replace V_b1 := V_b1.keep Kq55 (ninS ne_b1_b6 (ninS ne_b1_b6_7 (ninS ne_b1_b2_7 (ninS ne_b1_b4_7 nin0))))
      replace E_b6 := E_b6.keep Kq55
      replace E_b2_7 := E_b2_7.keep Kq55
      replace E_b4_7 := E_b4_7.keep Kq55
      replace E_b6_7 := E_b6_7.keep Kq55
      have E_b6 := gq55_0
      have F_b6_heap := gq55_1
      have F_b6_position := gq55_2
      have F_b6_key := gq55_3
      have F_b6_size := gq55_4
      have hl56 : (L33.set n34.toNatClampNeg v54).length = 4 := by (repeat' split) <;> (simp only [List.length_set]; first | assumption | rfl)
      obtain ⟨L57, q_L57⟩ : ∃ z, (L33.set n34.toNatClampNeg v54) = z := ⟨_, rfl⟩
      rw [q_L57] at gq55_5 hl56
      have V_b6_7 := gq55_5
      obtain ⟨n58, q_n58⟩ : ∃ z : Int32, (if dle ((L33.set n34.toNatClampNeg v54).getD n45.toNatClampNeg 0) ((L33.set n34.toNatClampNeg v54).getD n34.toNatClampNeg 0) then n44 else (if dle ((L33.set n34.toNatClampNeg v54).getD n44.toNatClampNeg 0) ((L33.set n34.toNatClampNeg v54).getD n34.toNatClampNeg 0) then n44 else n34)) = z := ⟨_, rfl⟩
      obtain ⟨n59, q_n59⟩ : ∃ z : Int32, (if dle ((L33.set n34.toNatClampNeg v54).getD n45.toNatClampNeg 0) ((L33.set n34.toNatClampNeg v54).getD n34.toNatClampNeg 0) then n45 else (if dle ((L33.set n34.toNatClampNeg v54).getD n44.toNatClampNeg 0) ((L33.set n34.toNatClampNeg v54).getD n34.toNatClampNeg 0) then n34 else n44)) = z := ⟨_, rfl⟩
      obtain ⟨n60, q_n60⟩ : ∃ z : Int32, (if dle ((L33.set n34.toNatClampNeg v54).getD n45.toNatClampNeg 0) ((L33.set n34.toNatClampNeg v54).getD n34.toNatClampNeg 0) then n34 else (if dle ((L33.set n34.toNatClampNeg v54).getD n44.toNatClampNeg 0) ((L33.set n34.toNatClampNeg v54).getD n34.toNatClampNeg 0) then n45 else n45)) = z := ⟨_, rfl⟩
      have V_b2_7 : Ary tr Z h55 b2_7 .int [(.int n58), (.int n59), (.int n46), (.int n60)] := by rw [← q_n58, ← q_n59, ← q_n60]; exact gq55_6
      have hl61 : (if dle ((L33.set n34.toNatClampNeg v54).getD n45.toNatClampNeg 0) ((L33.set n34.toNatClampNeg v54).getD n34.toNatClampNeg 0) then (L43.set n34.toNatClampNeg (3 : Int32)) else (if dle ((L33.set n34.toNatClampNeg v54).getD n44.toNatClampNeg 0) ((L33.set n34.toNatClampNeg v54).getD n34.toNatClampNeg 0) then ((L43.set n45.toNatClampNeg (3 : Int32)).set n34.toNatClampNeg (1 : Int32)) else (((L43.set n45.toNatClampNeg (3 : Int32)).set n44.toNatClampNeg (1 : Int32)).set n34.toNatClampNeg (0 : Int32)))).length = 4 := by (repeat' split) <;> (simp only [List.length_set]; first | assumption | rfl)
      obtain ⟨L62, q_L62⟩ : ∃ z, (if dle ((L33.set n34.toNatClampNeg v54).getD n45.toNatClampNeg 0) ((L33.set n34.toNatClampNeg v54).getD n34.toNatClampNeg 0) then (L43.set n34.toNatClampNeg (3 : Int32)) else (if dle ((L33.set n34.toNatClampNeg v54).getD n44.toNatClampNeg 0) ((L33.set n34.toNatClampNeg v54).getD n34.toNatClampNeg 0) then ((L43.set n45.toNatClampNeg (3 : Int32)).set n34.toNatClampNeg (1 : Int32)) else (((L43.set n45.toNatClampNeg (3 : Int32)).set n44.toNatClampNeg (1 : Int32)).set n34.toNatClampNeg (0 : Int32)))) = z := ⟨_, rfl⟩
      rw [q_L62] at gq55_7 hl61
      have V_b4_7 := gq55_7
      have hp_55 : Hp4 n58 n59 n46 n60 L62 L57 := by rw [← q_L57, ← q_n60, ← q_n59, ← q_n58, ← q_L62]; exact gq55_8
      have nnk_55 : NNk L57 := by rw [← q_L57]; exact gq55_9
      have ab_55 : ∀ z : Int32, (0 ≤ z.toInt ∧ z.toInt < 4) → ¬ n34.toInt = z.toInt → pv L43 z = -1 → pv L62 z = -1 := by rw [← q_L62]; exact gq55_10
      replace Z0 := Nat.le_trans Z0 Kq55.1
      have R5 : Rel L57 (A.set n34.toNatClampNeg (p4.toInt64)) := by rw [← q_L57]; exact own_relset R4 D_v54 rg_n34 hl32 hlA
      refine own_aload X55 hx hby rfl rfl at_122 (pc' := 124) rfl ?_
      refine own_static X55 hx hby hZ (y := (⟨"com/example/cross_town/crosstown/solve/NodeHeapPollPinLaw", "min4", "([J)J"⟩ : MethodName)) (rest := []) hown (hw _ (List.mem_of_getElem? (i := 37) rfl)) (hw _ (List.mem_of_getElem? (i := 38) rfl)) (hw _ (List.mem_of_getElem? (i := 40) rfl)) (hw _ (List.mem_of_getElem? (i := 39) rfl)) (by decide) (rm7 l Z a0 hw [] b1 (A.set n34.toNatClampNeg (p4.toInt64)) h55 n0 Z0 V_b1 (by first | assumption | rfl | (simp only [List.length_set]; first | assumption | rfl))) eH55 (by rw [hml]; rfl) (argsL := [(.ref b1)]) rfl (lenOf pd_5 rfl) rfl at_124 (pc' := 127) rfl (by decide) (W := 0) (Nat.le_of_eq rfl) (by decide) (by decide) (by decide) (fun T63 h63 Lc63 v63r X63 eH63 hQ63 => ?_)
      obtain ⟨rfl, Nq63, rfl⟩ := hQ63
      have N63 := Fr.app N55 Nq63
      dsimp only [Option.toList, List.cons_append, List.nil_append]
      generalize q_r64 : (if (if ((A.set n34.toNatClampNeg (p4.toInt64)).getD 3 0) < ((A.set n34.toNatClampNeg (p4.toInt64)).getD 2 0) then ((A.set n34.toNatClampNeg (p4.toInt64)).getD 3 0) else ((A.set n34.toNatClampNeg (p4.toInt64)).getD 2 0)) < (if ((A.set n34.toNatClampNeg (p4.toInt64)).getD 1 0) < ((A.set n34.toNatClampNeg (p4.toInt64)).getD 0 0) then ((A.set n34.toNatClampNeg (p4.toInt64)).getD 1 0) else ((A.set n34.toNatClampNeg (p4.toInt64)).getD 0 0)) then (if ((A.set n34.toNatClampNeg (p4.toInt64)).getD 3 0) < ((A.set n34.toNatClampNeg (p4.toInt64)).getD 2 0) then ((A.set n34.toNatClampNeg (p4.toInt64)).getD 3 0) else ((A.set n34.toNatClampNeg (p4.toInt64)).getD 2 0)) else (if ((A.set n34.toNatClampNeg (p4.toInt64)).getD 1 0) < ((A.set n34.toNatClampNeg (p4.toInt64)).getD 0 0) then ((A.set n34.toNatClampNeg (p4.toInt64)).getD 1 0) else ((A.set n34.toNatClampNeg (p4.toInt64)).getD 0 0))) = r64
      refine own_lstore X63 hx hby (L' := #[.val (.int p0), .val (.int p1), .val (.int p2), .val (.int p3), .val (.int p4), .val (.ref b1), .val (.ref b6), .val (.long r40), .second, .val (.int n34), .val (.long r64), .second, .unset, .unset, .unset, .unset]) rfl at_127 (pc' := 129) rfl ?_
      refine own_aload X63 hx hby rfl rfl at_129 (pc' := 131) rfl ?_
      refine own_virtual X63 hx hby hZ (y := (⟨"com/example/cross_town/crosstown/solve/NodeHeap", "poll", "()I"⟩ : MethodName)) (y' := (⟨"com/example/cross_town/crosstown/solve/NodeHeap", "poll", "()I"⟩ : MethodName)) (C := "com/example/cross_town/crosstown/solve/NodeHeap") (rest := []) hown (hw _ (List.mem_of_getElem? (i := 45) rfl)) (hw _ (List.mem_of_getElem? (i := 46) rfl)) (notFace_of_selects (args := #[]) (mvT hZ (hw _ (List.mem_of_getElem? (i := 48) rfl)))) (hw _ (List.mem_of_getElem? (i := 48) rfl)) (hw _ (List.mem_of_getElem? (i := 47) rfl)) (hw _ (List.mem_of_getElem? (i := 49) rfl)) (hw _ (List.mem_of_getElem? (i := 3) rfl)) (by decide) (rm94 l Z a0 hw [] b6 b2_7 b4_7 b6_7 n58 n59 n46 n60 L62 L57 h55 n0 Z0 E_b6 F_b6_heap F_b6_position F_b6_key V_b2_7 V_b4_7 (by first | assumption | rfl | (simp only [List.length_set]; first | assumption | rfl)) V_b6_7 (by first | assumption | rfl | (simp only [List.length_set]; first | assumption | rfl)) F_b6_size nnk_55 hp_55 g_b4_7 ne_b6_b4_7 ne_b2_7_b4_7 (Ne.symm ne_b4_7_b6_7) g_b6 (Ne.symm ne_b6_b2_7) (Ne.symm ne_b6_b6_7) g_b2_7 (Ne.symm ne_b2_7_b6_7)) eH63 (by rw [hml]; rfl) (a := b6) E_b6 (argsL := []) rfl (lenOf pd_6 rfl) rfl at_131 (pc' := 134) rfl (by decide) (W := 0) (Nat.le_of_eq rfl) (by decide) (by decide) (by decide) (fun T65 h65 Lc65 v65r X65 eH65 hQ65 => ?_)
      obtain ⟨rfl, Nq65, Kq65, gq65_0, gq65_1, gq65_2, gq65_3, gq65_4, gq65_5, gq65_6, gq65_7, gq65_8, gq65_9, gq65_10, gq65_11⟩ := hQ65
      have N65 := Fr.app N63 Nq65
      replace E_b1 := E_b1.keep Kq65
      replace V_b1 := V_b1.keep Kq65 (ninS ne_b1_b4_7 (ninS ne_b1_b6 (ninS ne_b1_b2_7 nin0)))
      replace E_b6 := E_b6.keep Kq65
      replace E_b2_7 := E_b2_7.keep Kq65
      replace E_b4_7 := E_b4_7.keep Kq65
      replace E_b6_7 := E_b6_7.keep Kq65
      replace V_b6_7 := V_b6_7.keep Kq65 (ninS (Ne.symm ne_b4_7_b6_7) (ninS (Ne.symm ne_b6_b6_7) (ninS (Ne.symm ne_b2_7_b6_7) nin0)))
      have hl66 : (if dlt (L57.getD n46.toNatClampNeg 0) (L57.getD n59.toNatClampNeg 0) then (if dle (L57.getD n60.toNatClampNeg 0) (L57.getD n46.toNatClampNeg 0) then ((L62.set n58.toNatClampNeg (-1 : Int32)).set n60.toNatClampNeg (0 : Int32)) else (((L62.set n58.toNatClampNeg (-1 : Int32)).set n46.toNatClampNeg (0 : Int32)).set n60.toNatClampNeg (2 : Int32))) else (if dle (L57.getD n60.toNatClampNeg 0) (L57.getD n59.toNatClampNeg 0) then ((L62.set n58.toNatClampNeg (-1 : Int32)).set n60.toNatClampNeg (0 : Int32)) else (((L62.set n58.toNatClampNeg (-1 : Int32)).set n59.toNatClampNeg (0 : Int32)).set n60.toNatClampNeg (1 : Int32)))).length = 4 := by (repeat' split) <;> (simp only [List.length_set]; first | assumption | rfl)
      obtain ⟨L67, q_L67⟩ : ∃ z, (if dlt (L57.getD n46.toNatClampNeg 0) (L57.getD n59.toNatClampNeg 0) then (if dle (L57.getD n60.toNatClampNeg 0) (L57.getD n46.toNatClampNeg 0) then ((L62.set n58.toNatClampNeg (-1 : Int32)).set n60.toNatClampNeg (0 : Int32)) else (((L62.set n58.toNatClampNeg (-1 : Int32)).set n46.toNatClampNeg (0 : Int32)).set n60.toNatClampNeg (2 : Int32))) else (if dle (L57.getD n60.toNatClampNeg 0) (L57.getD n59.toNatClampNeg 0) then ((L62.set n58.toNatClampNeg (-1 : Int32)).set n60.toNatClampNeg (0 : Int32)) else (((L62.set n58.toNatClampNeg (-1 : Int32)).set n59.toNatClampNeg (0 : Int32)).set n60.toNatClampNeg (1 : Int32)))) = z := ⟨_, rfl⟩
      rw [q_L67] at gq65_0 hl66
      have V_b4_7 := gq65_0
      have E_b6 := gq65_1
      have F_b6_heap := gq65_2
      have F_b6_position := gq65_3
      have F_b6_key := gq65_4
      have F_b6_size := gq65_5
      obtain ⟨n68, q_n68⟩ : ∃ z : Int32, (if dlt (L57.getD n46.toNatClampNeg 0) (L57.getD n59.toNatClampNeg 0) then (if dle (L57.getD n60.toNatClampNeg 0) (L57.getD n46.toNatClampNeg 0) then n60 else n46) else (if dle (L57.getD n60.toNatClampNeg 0) (L57.getD n59.toNatClampNeg 0) then n60 else n59)) = z := ⟨_, rfl⟩
      obtain ⟨n69, q_n69⟩ : ∃ z : Int32, (if dlt (L57.getD n46.toNatClampNeg 0) (L57.getD n59.toNatClampNeg 0) then (if dle (L57.getD n60.toNatClampNeg 0) (L57.getD n46.toNatClampNeg 0) then n59 else n59) else (if dle (L57.getD n60.toNatClampNeg 0) (L57.getD n59.toNatClampNeg 0) then n59 else n60)) = z := ⟨_, rfl⟩
      obtain ⟨n70, q_n70⟩ : ∃ z : Int32, (if dlt (L57.getD n46.toNatClampNeg 0) (L57.getD n59.toNatClampNeg 0) then (if dle (L57.getD n60.toNatClampNeg 0) (L57.getD n46.toNatClampNeg 0) then n46 else n60) else (if dle (L57.getD n60.toNatClampNeg 0) (L57.getD n59.toNatClampNeg 0) then n46 else n46)) = z := ⟨_, rfl⟩
      have V_b2_7 : Ary tr Z h65 b2_7 .int [(.int n68), (.int n69), (.int n70), (.int n60)] := by rw [← q_n68, ← q_n69, ← q_n70]; exact gq65_6
      have hp_65 : Hp3 n68 n69 n70 L67 L57 := by rw [← q_n70, ← q_n69, ← q_n68, ← q_L67]; exact gq65_7
      have ab_65 : ∀ z : Int32, (0 ≤ z.toInt ∧ z.toInt < 4) → pv L62 z = -1 → pv L67 z = -1 := by rw [← q_L67]; exact gq65_8
      have go_65 : pv L67 n58 = -1 := by rw [← q_L67]; exact gq65_9
      have rg_65 : 0 ≤ n58.toInt ∧ n58.toInt < 4 := gq65_10
      have mn_65 : kv L57 n58 ≤ kv L57 n68 ∧ kv L57 n58 ≤ kv L57 n69 ∧ kv L57 n58 ≤ kv L57 n70 := by rw [← q_n70, ← q_n69, ← q_n68]; exact gq65_11
      replace Z0 := Nat.le_trans Z0 Kq65.1
      refine own_istore X65 hx hby (L' := #[.val (.int p0), .val (.int p1), .val (.int p2), .val (.int p3), .val (.int p4), .val (.ref b1), .val (.ref b6), .val (.long r40), .second, .val (.int n34), .val (.long r64), .second, .val (.int n58), .unset, .unset, .unset]) rfl at_134 (pc' := 136) rfl ?_
      have rg_n58 := rg_65
      refine own_aload X65 hx hby rfl rfl at_136 (pc' := 138) rfl ?_
      refine own_virtual X65 hx hby hZ (y := (⟨"com/example/cross_town/crosstown/solve/NodeHeap", "poll", "()I"⟩ : MethodName)) (y' := (⟨"com/example/cross_town/crosstown/solve/NodeHeap", "poll", "()I"⟩ : MethodName)) (C := "com/example/cross_town/crosstown/solve/NodeHeap") (rest := []) hown (hw _ (List.mem_of_getElem? (i := 45) rfl)) (hw _ (List.mem_of_getElem? (i := 46) rfl)) (notFace_of_selects (args := #[]) (mvT hZ (hw _ (List.mem_of_getElem? (i := 48) rfl)))) (hw _ (List.mem_of_getElem? (i := 48) rfl)) (hw _ (List.mem_of_getElem? (i := 47) rfl)) (hw _ (List.mem_of_getElem? (i := 49) rfl)) (hw _ (List.mem_of_getElem? (i := 3) rfl)) (by decide) (rm93 l Z a0 hw [] b6 b2_7 b4_7 b6_7 n68 n69 n70 n60 L67 L57 h65 n0 Z0 E_b6 F_b6_heap F_b6_position F_b6_key V_b2_7 V_b4_7 (by first | assumption | rfl | (simp only [List.length_set]; first | assumption | rfl)) V_b6_7 (by first | assumption | rfl | (simp only [List.length_set]; first | assumption | rfl)) F_b6_size nnk_55 hp_65 g_b4_7 ne_b6_b4_7 ne_b2_7_b4_7 (Ne.symm ne_b4_7_b6_7) g_b6 (Ne.symm ne_b6_b2_7) (Ne.symm ne_b6_b6_7) g_b2_7 (Ne.symm ne_b2_7_b6_7)) eH65 (by rw [hml]; rfl) (a := b6) E_b6 (argsL := []) rfl (lenOf pd_6 rfl) rfl at_138 (pc' := 141) rfl (by decide) (W := 0) (Nat.le_of_eq rfl) (by decide) (by decide) (by decide) (fun T71 h71 Lc71 v71r X71 eH71 hQ71 => ?_)
      obtain ⟨rfl, Nq71, Kq71, gq71_0, gq71_1, gq71_2, gq71_3, gq71_4, gq71_5, gq71_6, gq71_7, gq71_8, gq71_9, gq71_10, gq71_11⟩ := hQ71
      have N71 := Fr.app N65 Nq71
      replace E_b1 := E_b1.keep Kq71
      replace V_b1 := V_b1.keep Kq71 (ninS ne_b1_b4_7 (ninS ne_b1_b6 (ninS ne_b1_b2_7 nin0)))
      replace E_b6 := E_b6.keep Kq71
      replace E_b2_7 := E_b2_7.keep Kq71
      replace E_b4_7 := E_b4_7.keep Kq71
      replace E_b6_7 := E_b6_7.keep Kq71
      replace V_b6_7 := V_b6_7.keep Kq71 (ninS (Ne.symm ne_b4_7_b6_7) (ninS (Ne.symm ne_b6_b6_7) (ninS (Ne.symm ne_b2_7_b6_7) nin0)))
      have hl72 : (if dle (L57.getD n70.toNatClampNeg 0) (L57.getD n69.toNatClampNeg 0) then ((L67.set n68.toNatClampNeg (-1 : Int32)).set n70.toNatClampNeg (0 : Int32)) else (((L67.set n68.toNatClampNeg (-1 : Int32)).set n69.toNatClampNeg (0 : Int32)).set n70.toNatClampNeg (1 : Int32))).length = 4 := by (repeat' split) <;> (simp only [List.length_set]; first | assumption | rfl)
      obtain ⟨L73, q_L73⟩ : ∃ z, (if dle (L57.getD n70.toNatClampNeg 0) (L57.getD n69.toNatClampNeg 0) then ((L67.set n68.toNatClampNeg (-1 : Int32)).set n70.toNatClampNeg (0 : Int32)) else (((L67.set n68.toNatClampNeg (-1 : Int32)).set n69.toNatClampNeg (0 : Int32)).set n70.toNatClampNeg (1 : Int32))) = z := ⟨_, rfl⟩
      rw [q_L73] at gq71_0 hl72
      have V_b4_7 := gq71_0
      have E_b6 := gq71_1
      have F_b6_heap := gq71_2
      have F_b6_position := gq71_3
      have F_b6_key := gq71_4
      have F_b6_size := gq71_5
      obtain ⟨n74, q_n74⟩ : ∃ z : Int32, (if dle (L57.getD n70.toNatClampNeg 0) (L57.getD n69.toNatClampNeg 0) then n70 else n69) = z := ⟨_, rfl⟩
      obtain ⟨n75, q_n75⟩ : ∃ z : Int32, (if dle (L57.getD n70.toNatClampNeg 0) (L57.getD n69.toNatClampNeg 0) then n69 else n70) = z := ⟨_, rfl⟩
      have V_b2_7 : Ary tr Z h71 b2_7 .int [(.int n74), (.int n75), (.int n70), (.int n60)] := by rw [← q_n74, ← q_n75]; exact gq71_6
      have hp_71 : Hp2 n74 n75 L73 L57 := by rw [← q_n75, ← q_n74, ← q_L73]; exact gq71_7
      have ab_71 : ∀ z : Int32, (0 ≤ z.toInt ∧ z.toInt < 4) → pv L67 z = -1 → pv L73 z = -1 := by rw [← q_L73]; exact gq71_8
      have go_71 : pv L73 n68 = -1 := by rw [← q_L73]; exact gq71_9
      have rg_71 : 0 ≤ n68.toInt ∧ n68.toInt < 4 := gq71_10
      have mn_71 : kv L57 n68 ≤ kv L57 n74 ∧ kv L57 n68 ≤ kv L57 n75 := by rw [← q_n75, ← q_n74]; exact gq71_11
      replace Z0 := Nat.le_trans Z0 Kq71.1
      as_aux_lemma =>
        refine own_istore X71 hx hby (L' := #[.val (.int p0), .val (.int p1), .val (.int p2), .val (.int p3), .val (.int p4), .val (.ref b1), .val (.ref b6), .val (.long r40), .second, .val (.int n34), .val (.long r64), .second, .val (.int n58), .val (.int n68), .unset, .unset]) rfl at_141 (pc' := 143) rfl ?_
        have rg_n68 := rg_71
        refine own_aload X71 hx hby rfl rfl at_143 (pc' := 145) rfl ?_
        refine own_virtual X71 hx hby hZ (y := (⟨"com/example/cross_town/crosstown/solve/NodeHeap", "poll", "()I"⟩ : MethodName)) (y' := (⟨"com/example/cross_town/crosstown/solve/NodeHeap", "poll", "()I"⟩ : MethodName)) (C := "com/example/cross_town/crosstown/solve/NodeHeap") (rest := []) hown (hw _ (List.mem_of_getElem? (i := 45) rfl)) (hw _ (List.mem_of_getElem? (i := 46) rfl)) (notFace_of_selects (args := #[]) (mvT hZ (hw _ (List.mem_of_getElem? (i := 48) rfl)))) (hw _ (List.mem_of_getElem? (i := 48) rfl)) (hw _ (List.mem_of_getElem? (i := 47) rfl)) (hw _ (List.mem_of_getElem? (i := 49) rfl)) (hw _ (List.mem_of_getElem? (i := 3) rfl)) (by decide) (rm92 l Z a0 hw [] b6 b2_7 b4_7 b6_7 n74 n75 n70 n60 L73 L57 h71 n0 Z0 E_b6 F_b6_heap F_b6_position F_b6_key V_b2_7 V_b4_7 (by first | assumption | rfl | (simp only [List.length_set]; first | assumption | rfl)) V_b6_7 (by first | assumption | rfl | (simp only [List.length_set]; first | assumption | rfl)) F_b6_size nnk_55 hp_71 g_b4_7 ne_b6_b4_7 ne_b2_7_b4_7 (Ne.symm ne_b4_7_b6_7) g_b6 (Ne.symm ne_b6_b2_7) (Ne.symm ne_b6_b6_7) g_b2_7 (Ne.symm ne_b2_7_b6_7)) eH71 (by rw [hml]; rfl) (a := b6) E_b6 (argsL := []) rfl (lenOf pd_6 rfl) rfl at_145 (pc' := 148) rfl (by decide) (W := 0) (Nat.le_of_eq rfl) (by decide) (by decide) (by decide) (fun T76 h76 Lc76 v76r X76 eH76 hQ76 => ?_)
        obtain ⟨rfl, Nq76, Kq76, gq76_0, gq76_1, gq76_2, gq76_3, gq76_4, gq76_5, gq76_6, gq76_7, gq76_8, gq76_9, gq76_10, gq76_11⟩ := hQ76
        have N76 := Fr.app N71 Nq76
        replace E_b1 := E_b1.keep Kq76
        replace V_b1 := V_b1.keep Kq76 (ninS ne_b1_b4_7 (ninS ne_b1_b6 (ninS ne_b1_b2_7 nin0)))
        replace E_b6 := E_b6.keep Kq76
        replace E_b2_7 := E_b2_7.keep Kq76
        replace E_b4_7 := E_b4_7.keep Kq76
        replace E_b6_7 := E_b6_7.keep Kq76
        replace V_b6_7 := V_b6_7.keep Kq76 (ninS (Ne.symm ne_b4_7_b6_7) (ninS (Ne.symm ne_b6_b6_7) (ninS (Ne.symm ne_b2_7_b6_7) nin0)))
        have hl77 : ((L73.set n74.toNatClampNeg (-1 : Int32)).set n75.toNatClampNeg (0 : Int32)).length = 4 := by (repeat' split) <;> (simp only [List.length_set]; first | assumption | rfl)
        obtain ⟨L78, q_L78⟩ : ∃ z, ((L73.set n74.toNatClampNeg (-1 : Int32)).set n75.toNatClampNeg (0 : Int32)) = z := ⟨_, rfl⟩
        rw [q_L78] at gq76_0 hl77
        have V_b4_7 := gq76_0
        have E_b6 := gq76_1
        have F_b6_heap := gq76_2
        have F_b6_position := gq76_3
        have F_b6_key := gq76_4
        have F_b6_size := gq76_5
        have V_b2_7 := gq76_6
        have hp_76 : Hp1 n75 L78 L57 := by rw [← q_L78]; exact gq76_7
        have ab_76 : ∀ z : Int32, (0 ≤ z.toInt ∧ z.toInt < 4) → pv L73 z = -1 → pv L78 z = -1 := by rw [← q_L78]; exact gq76_8
        have go_76 : pv L78 n74 = -1 := by rw [← q_L78]; exact gq76_9
        have rg_76 : 0 ≤ n74.toInt ∧ n74.toInt < 4 := gq76_10
        have mn_76 : kv L57 n74 ≤ kv L57 n75 := gq76_11
        replace Z0 := Nat.le_trans Z0 Kq76.1
        refine own_istore X76 hx hby (L' := #[.val (.int p0), .val (.int p1), .val (.int p2), .val (.int p3), .val (.int p4), .val (.ref b1), .val (.ref b6), .val (.long r40), .second, .val (.int n34), .val (.long r64), .second, .val (.int n58), .val (.int n68), .val (.int n74), .unset]) rfl at_148 (pc' := 150) rfl ?_
        have rg_n74 := rg_76
        refine own_aload X76 hx hby rfl rfl at_150 (pc' := 152) rfl ?_
        refine own_virtual X76 hx hby hZ (y := (⟨"com/example/cross_town/crosstown/solve/NodeHeap", "poll", "()I"⟩ : MethodName)) (y' := (⟨"com/example/cross_town/crosstown/solve/NodeHeap", "poll", "()I"⟩ : MethodName)) (C := "com/example/cross_town/crosstown/solve/NodeHeap") (rest := []) hown (hw _ (List.mem_of_getElem? (i := 45) rfl)) (hw _ (List.mem_of_getElem? (i := 46) rfl)) (notFace_of_selects (args := #[]) (mvT hZ (hw _ (List.mem_of_getElem? (i := 48) rfl)))) (hw _ (List.mem_of_getElem? (i := 48) rfl)) (hw _ (List.mem_of_getElem? (i := 47) rfl)) (hw _ (List.mem_of_getElem? (i := 49) rfl)) (hw _ (List.mem_of_getElem? (i := 3) rfl)) (by decide) (rm91 l Z a0 hw [] b6 b2_7 b4_7 b6_7 n75 n75 n70 n60 L78 L57 h76 n0 Z0 E_b6 F_b6_heap F_b6_position F_b6_key V_b2_7 V_b4_7 (by first | assumption | rfl | (simp only [List.length_set]; first | assumption | rfl)) V_b6_7 (by first | assumption | rfl | (simp only [List.length_set]; first | assumption | rfl)) F_b6_size nnk_55 hp_76 g_b4_7 ne_b6_b4_7 ne_b2_7_b4_7 (Ne.symm ne_b4_7_b6_7) g_b6 (Ne.symm ne_b6_b2_7) (Ne.symm ne_b6_b6_7)) eH76 (by rw [hml]; rfl) (a := b6) E_b6 (argsL := []) rfl (lenOf pd_6 rfl) rfl at_152 (pc' := 155) rfl (by decide) (W := 0) (Nat.le_of_eq rfl) (by decide) (by decide) (by decide) (fun T79 h79 Lc79 v79r X79 eH79 hQ79 => ?_)
        obtain ⟨rfl, Nq79, Kq79, gq79_0, gq79_1, gq79_2, gq79_3, gq79_4, gq79_5, gq79_6, gq79_7, gq79_8⟩ := hQ79
        have N79 := Fr.app N76 Nq79
        replace E_b1 := E_b1.keep Kq79
        replace V_b1 := V_b1.keep Kq79 (ninS ne_b1_b4_7 (ninS ne_b1_b6 nin0))
        replace E_b6 := E_b6.keep Kq79
        replace E_b2_7 := E_b2_7.keep Kq79
        replace V_b2_7 := V_b2_7.keep Kq79 (ninS ne_b2_7_b4_7 (ninS (Ne.symm ne_b6_b2_7) nin0))
        replace E_b4_7 := E_b4_7.keep Kq79
        replace E_b6_7 := E_b6_7.keep Kq79
        replace V_b6_7 := V_b6_7.keep Kq79 (ninS (Ne.symm ne_b4_7_b6_7) (ninS (Ne.symm ne_b6_b6_7) nin0))
        have hl80 : (L78.set n75.toNatClampNeg (-1 : Int32)).length = 4 := by (repeat' split) <;> (simp only [List.length_set]; first | assumption | rfl)
        obtain ⟨L81, q_L81⟩ : ∃ z, (L78.set n75.toNatClampNeg (-1 : Int32)) = z := ⟨_, rfl⟩
        rw [q_L81] at gq79_0 hl80
        have V_b4_7 := gq79_0
        have E_b6 := gq79_1
        have F_b6_heap := gq79_2
        have F_b6_position := gq79_3
        have F_b6_key := gq79_4
        have F_b6_size := gq79_5
        have ab_79 : ∀ z : Int32, (0 ≤ z.toInt ∧ z.toInt < 4) → pv L78 z = -1 → pv L81 z = -1 := by rw [← q_L81]; exact gq79_6
        have go_79 : pv L81 n75 = -1 := by rw [← q_L81]; exact gq79_7
        have rg_79 : 0 ≤ n75.toInt ∧ n75.toInt < 4 := gq79_8
        replace Z0 := Nat.le_trans Z0 Kq79.1
        refine own_istore X79 hx hby (L' := #[.val (.int p0), .val (.int p1), .val (.int p2), .val (.int p3), .val (.int p4), .val (.ref b1), .val (.ref b6), .val (.long r40), .second, .val (.int n34), .val (.long r64), .second, .val (.int n58), .val (.int n68), .val (.int n74), .val (.int n75)]) rfl at_155 (pc' := 157) rfl ?_
        have rg_n75 := rg_79
        have a2 := ab_71 n58 rg_n58 go_65
        have a3 := ab_76 n58 rg_n58 a2
        have b3 := ab_76 n68 rg_n68 go_71
        have n1 := own_pne go_65 (hp_65).2.2.2.1 (by decide)
        have n2 := own_pne a2 (hp_71).2.2.1 (by decide)
        have n3 := own_pne a3 (hp_76).2 (by decide)
        have n4 := own_pne go_71 (hp_71).2.2.1 (by decide)
        have n5 := own_pne b3 (hp_76).2 (by decide)
        have n6 := own_pne go_76 (hp_76).2 (by decide)
        have k1 := (mn_65).1
        have k2 := (mn_71).1
        have k3 := mn_76
        refine own_iload X79 hx hby rfl at_157 (pc' := 159) rfl ?_
        refine own_static X79 hx hby hZ (y := (⟨"com/example/cross_town/crosstown/solve/NodeHeapPollPinLaw", "ok", "(I)Z"⟩ : MethodName)) (rest := []) hown (hw _ (List.mem_of_getElem? (i := 54) rfl)) (hw _ (List.mem_of_getElem? (i := 55) rfl)) (hw _ (List.mem_of_getElem? (i := 56) rfl)) (hw _ (List.mem_of_getElem? (i := 39) rfl)) (by decide) (rm11 l Z a0 hw [] n58 h79 n0 Z0) eH79 (by rw [hml]; rfl) (argsL := [(.int n58)]) rfl (lenOf pd_7 rfl) rfl at_159 (pc' := 162) rfl (by decide) (W := 0) (Nat.le_of_eq rfl) (by decide) (by decide) (by decide) (fun T82 h82 Lc82 v82r X82 eH82 hQ82 => ?_)
        obtain ⟨rfl, Nq82, rfl⟩ := hQ82
        have N82 := Fr.app N79 Nq82
        dsimp only [Option.toList, List.cons_append, List.nil_append]
        generalize q_r83 : (if n58 < 0 then (0 : Int32) else (if (3 : Int32) < n58 then (0 : Int32) else (1 : Int32))) = r83
        have hk84 : ¬ (r83 = 0) := own_okr rg_n58 q_r83
        refine own_ifF X82 hx hby at_162 (own_i0_eq_n hk84) (pc' := 165) rfl ?_
        refine own_iload X82 hx hby rfl at_165 (pc' := 167) rfl ?_
        refine own_static X82 hx hby hZ (y := (⟨"com/example/cross_town/crosstown/solve/NodeHeapPollPinLaw", "ok", "(I)Z"⟩ : MethodName)) (rest := []) hown (hw _ (List.mem_of_getElem? (i := 54) rfl)) (hw _ (List.mem_of_getElem? (i := 55) rfl)) (hw _ (List.mem_of_getElem? (i := 56) rfl)) (hw _ (List.mem_of_getElem? (i := 39) rfl)) (by decide) (rm11 l Z a0 hw [] n68 h79 n0 Z0) eH82 (by rw [hml]; rfl) (argsL := [(.int n68)]) rfl (lenOf pd_7 rfl) rfl at_167 (pc' := 170) rfl (by decide) (W := 0) (Nat.le_of_eq rfl) (by decide) (by decide) (by decide) (fun T85 h85 Lc85 v85r X85 eH85 hQ85 => ?_)
        obtain ⟨rfl, Nq85, rfl⟩ := hQ85
        have N85 := Fr.app N82 Nq85
        dsimp only [Option.toList, List.cons_append, List.nil_append]
        generalize q_r86 : (if n68 < 0 then (0 : Int32) else (if (3 : Int32) < n68 then (0 : Int32) else (1 : Int32))) = r86
        have hk87 : ¬ (r86 = 0) := own_okr rg_n68 q_r86
        refine own_ifF X85 hx hby at_170 (own_i0_eq_n hk87) (pc' := 173) rfl ?_
        refine own_iload X85 hx hby rfl at_173 (pc' := 175) rfl ?_
        refine own_static X85 hx hby hZ (y := (⟨"com/example/cross_town/crosstown/solve/NodeHeapPollPinLaw", "ok", "(I)Z"⟩ : MethodName)) (rest := []) hown (hw _ (List.mem_of_getElem? (i := 54) rfl)) (hw _ (List.mem_of_getElem? (i := 55) rfl)) (hw _ (List.mem_of_getElem? (i := 56) rfl)) (hw _ (List.mem_of_getElem? (i := 39) rfl)) (by decide) (rm11 l Z a0 hw [] n74 h79 n0 Z0) eH85 (by rw [hml]; rfl) (argsL := [(.int n74)]) rfl (lenOf pd_7 rfl) rfl at_175 (pc' := 178) rfl (by decide) (W := 0) (Nat.le_of_eq rfl) (by decide) (by decide) (by decide) (fun T88 h88 Lc88 v88r X88 eH88 hQ88 => ?_)
        obtain ⟨rfl, Nq88, rfl⟩ := hQ88
        have N88 := Fr.app N85 Nq88
        dsimp only [Option.toList, List.cons_append, List.nil_append]
        generalize q_r89 : (if n74 < 0 then (0 : Int32) else (if (3 : Int32) < n74 then (0 : Int32) else (1 : Int32))) = r89
        have hk90 : ¬ (r89 = 0) := own_okr rg_n74 q_r89
        refine own_ifF X88 hx hby at_178 (own_i0_eq_n hk90) (pc' := 181) rfl ?_
        refine own_iload X88 hx hby rfl at_181 (pc' := 183) rfl ?_
        refine own_static X88 hx hby hZ (y := (⟨"com/example/cross_town/crosstown/solve/NodeHeapPollPinLaw", "ok", "(I)Z"⟩ : MethodName)) (rest := []) hown (hw _ (List.mem_of_getElem? (i := 54) rfl)) (hw _ (List.mem_of_getElem? (i := 55) rfl)) (hw _ (List.mem_of_getElem? (i := 56) rfl)) (hw _ (List.mem_of_getElem? (i := 39) rfl)) (by decide) (rm11 l Z a0 hw [] n75 h79 n0 Z0) eH88 (by rw [hml]; rfl) (argsL := [(.int n75)]) rfl (lenOf pd_7 rfl) rfl at_183 (pc' := 186) rfl (by decide) (W := 0) (Nat.le_of_eq rfl) (by decide) (by decide) (by decide) (fun T91 h91 Lc91 v91r X91 eH91 hQ91 => ?_)
        obtain ⟨rfl, Nq91, rfl⟩ := hQ91
        have N91 := Fr.app N88 Nq91
        dsimp only [Option.toList, List.cons_append, List.nil_append]
        generalize q_r92 : (if n75 < 0 then (0 : Int32) else (if (3 : Int32) < n75 then (0 : Int32) else (1 : Int32))) = r92
        have hk93 : ¬ (r92 = 0) := own_okr rg_n75 q_r92
        refine own_ifT X91 hx hby at_186 (own_i0_ne_n hk93) (by decide) (pc' := 191) (by decide) ?_
        refine own_iconst X91 hx hby (v := (1 : Int32)) (by decide) at_191 (pc' := 192) rfl ?_
        refine own_iload X91 hx hby rfl at_192 (pc' := 194) rfl ?_
        refine own_ishl X91 hx hby rfl at_194 (pc' := 195) rfl ?_
        refine own_iconst X91 hx hby (v := (1 : Int32)) (by decide) at_195 (pc' := 196) rfl ?_
        refine own_iload X91 hx hby rfl at_196 (pc' := 198) rfl ?_
        refine own_ishl X91 hx hby rfl at_198 (pc' := 199) rfl ?_
        refine own_ior X91 hx hby rfl at_199 (pc' := 200) rfl ?_
        refine own_iconst X91 hx hby (v := (1 : Int32)) (by decide) at_200 (pc' := 201) rfl ?_
        refine own_iload X91 hx hby rfl at_201 (pc' := 203) rfl ?_
        refine own_ishl X91 hx hby rfl at_203 (pc' := 204) rfl ?_
        refine own_ior X91 hx hby rfl at_204 (pc' := 205) rfl ?_
        refine own_iconst X91 hx hby (v := (1 : Int32)) (by decide) at_205 (pc' := 206) rfl ?_
        refine own_iload X91 hx hby rfl at_206 (pc' := 208) rfl ?_
        refine own_ishl X91 hx hby rfl at_208 (pc' := 209) rfl ?_
        refine own_ior X91 hx hby rfl at_209 (pc' := 210) rfl ?_
        refine own_bipush X91 hx hby (v := (15 : Int32)) (by decide) at_210 (pc' := 212) rfl ?_
        have hk94 : (((((1 : Int32) <<< (n58 &&& 31)) ||| ((1 : Int32) <<< (n68 &&& 31))) ||| ((1 : Int32) <<< (n74 &&& 31))) ||| ((1 : Int32) <<< (n75 &&& 31))) = (15 : Int32) := own_mask15 rg_n58 rg_n68 rg_n74 rg_n75 n1 n2 n3 n4 n5 n6
        refine own_icT X91 hx hby at_212 (own_ic_eq_p hk94) (by decide) (pc' := 217) (by decide) ?_
        refine own_aload X91 hx hby rfl rfl at_217 (pc' := 219) rfl ?_
        as_aux_lemma =>
          refine own_iload X91 hx hby rfl at_219 (pc' := 221) rfl ?_
          refine own_laload X91 hx hby hZ eH91 V_b1 (own_rg0 rg_n58) (v := (.long ((A.set n34.toNatClampNeg (p4.toInt64)).getD n58.toNatClampNeg 0))) (own_lget (own_rgl rg_n58 hl53)) at_221 (pc' := 222) rfl ?_
          refine own_lload X91 hx hby rfl at_222 (pc' := 224) rfl ?_
          generalize q_n95 : ((A.set n34.toNatClampNeg (p4.toInt64)).getD n58.toNatClampNeg 0) = n95
          refine own_lcmp X91 hx hby rfl at_224 (pc' := 225) rfl ?_
          have hk96 : n95 = r64 := q_n95.symm.trans (own_isleast hp_55 R5 q_r64)
          refine own_ifT X91 hx hby at_225 (own_lc_eq_p hk96) (by decide) (pc' := 230) (by decide) ?_
          refine own_aload X91 hx hby rfl rfl at_230 (pc' := 232) rfl ?_
          refine own_iload X91 hx hby rfl at_232 (pc' := 234) rfl ?_
          refine own_laload X91 hx hby hZ eH91 V_b1 (own_rg0 rg_n58) (v := (.long ((A.set n34.toNatClampNeg (p4.toInt64)).getD n58.toNatClampNeg 0))) (own_lget (own_rgl rg_n58 hl53)) at_234 (pc' := 235) rfl ?_
          refine own_aload X91 hx hby rfl rfl at_235 (pc' := 237) rfl ?_
          refine own_iload X91 hx hby rfl at_237 (pc' := 239) rfl ?_
          refine own_laload X91 hx hby hZ eH91 V_b1 (own_rg0 rg_n68) (v := (.long ((A.set n34.toNatClampNeg (p4.toInt64)).getD n68.toNatClampNeg 0))) (own_lget (own_rgl rg_n68 hl53)) at_239 (pc' := 240) rfl ?_
          generalize q_n97 : ((A.set n34.toNatClampNeg (p4.toInt64)).getD n58.toNatClampNeg 0) = n97
          generalize q_n98 : ((A.set n34.toNatClampNeg (p4.toInt64)).getD n68.toNatClampNeg 0) = n98
          refine own_lcmp X91 hx hby rfl at_240 (pc' := 241) rfl ?_
          have hk99 : ¬ (n98 < n97) := by rw [Int64.lt_iff_toInt_lt, ← q_n98, ← q_n97]; have := own_relle R5 rg_n58 rg_n68 k1; omega
          refine own_ifF X91 hx hby at_241 (own_lc_gt_n hk99) (pc' := 244) rfl ?_
          refine own_aload X91 hx hby rfl rfl at_244 (pc' := 246) rfl ?_
          refine own_iload X91 hx hby rfl at_246 (pc' := 248) rfl ?_
          refine own_laload X91 hx hby hZ eH91 V_b1 (own_rg0 rg_n68) (v := (.long ((A.set n34.toNatClampNeg (p4.toInt64)).getD n68.toNatClampNeg 0))) (own_lget (own_rgl rg_n68 hl53)) at_248 (pc' := 249) rfl ?_
          refine own_aload X91 hx hby rfl rfl at_249 (pc' := 251) rfl ?_
          refine own_iload X91 hx hby rfl at_251 (pc' := 253) rfl ?_
          refine own_laload X91 hx hby hZ eH91 V_b1 (own_rg0 rg_n74) (v := (.long ((A.set n34.toNatClampNeg (p4.toInt64)).getD n74.toNatClampNeg 0))) (own_lget (own_rgl rg_n74 hl53)) at_253 (pc' := 254) rfl ?_
          generalize q_n100 : ((A.set n34.toNatClampNeg (p4.toInt64)).getD n68.toNatClampNeg 0) = n100
          generalize q_n101 : ((A.set n34.toNatClampNeg (p4.toInt64)).getD n74.toNatClampNeg 0) = n101
          refine own_lcmp X91 hx hby rfl at_254 (pc' := 255) rfl ?_
          have hk102 : ¬ (n101 < n100) := by rw [Int64.lt_iff_toInt_lt, ← q_n101, ← q_n100]; have := own_relle R5 rg_n68 rg_n74 k2; omega
          refine own_ifF X91 hx hby at_255 (own_lc_gt_n hk102) (pc' := 258) rfl ?_
          refine own_aload X91 hx hby rfl rfl at_258 (pc' := 260) rfl ?_
          refine own_iload X91 hx hby rfl at_260 (pc' := 262) rfl ?_
          refine own_laload X91 hx hby hZ eH91 V_b1 (own_rg0 rg_n74) (v := (.long ((A.set n34.toNatClampNeg (p4.toInt64)).getD n74.toNatClampNeg 0))) (own_lget (own_rgl rg_n74 hl53)) at_262 (pc' := 263) rfl ?_
          refine own_aload X91 hx hby rfl rfl at_263 (pc' := 265) rfl ?_
          refine own_iload X91 hx hby rfl at_265 (pc' := 267) rfl ?_
          refine own_laload X91 hx hby hZ eH91 V_b1 (own_rg0 rg_n75) (v := (.long ((A.set n34.toNatClampNeg (p4.toInt64)).getD n75.toNatClampNeg 0))) (own_lget (own_rgl rg_n75 hl53)) at_267 (pc' := 268) rfl ?_
          generalize q_n103 : ((A.set n34.toNatClampNeg (p4.toInt64)).getD n74.toNatClampNeg 0) = n103
          generalize q_n104 : ((A.set n34.toNatClampNeg (p4.toInt64)).getD n75.toNatClampNeg 0) = n104
          refine own_lcmp X91 hx hby rfl at_268 (pc' := 269) rfl ?_
          have hk105 : ¬ (n104 < n103) := by rw [Int64.lt_iff_toInt_lt, ← q_n104, ← q_n103]; have := own_relle R5 rg_n74 rg_n75 k3; omega
          refine own_ifT X91 hx hby at_269 (own_lc_le_n hk105) (by decide) (pc' := 274) (by decide) ?_
          refine own_aload X91 hx hby rfl rfl at_274 (pc' := 276) rfl ?_
          refine own_virtual X91 hx hby hZ (y := (⟨"com/example/cross_town/crosstown/solve/NodeHeap", "isEmpty", "()Z"⟩ : MethodName)) (y' := (⟨"com/example/cross_town/crosstown/solve/NodeHeap", "isEmpty", "()Z"⟩ : MethodName)) (C := "com/example/cross_town/crosstown/solve/NodeHeap") (rest := []) hown (hw _ (List.mem_of_getElem? (i := 57) rfl)) (hw _ (List.mem_of_getElem? (i := 58) rfl)) (notFace_of_selects (args := #[]) (mvT hZ (hw _ (List.mem_of_getElem? (i := 60) rfl)))) (hw _ (List.mem_of_getElem? (i := 60) rfl)) (hw _ (List.mem_of_getElem? (i := 59) rfl)) (hw _ (List.mem_of_getElem? (i := 61) rfl)) (hw _ (List.mem_of_getElem? (i := 3) rfl)) (by decide) (rm12 l Z a0 hw [] b6 (0 : Int32) h79 n0 Z0 F_b6_size) eH91 (by rw [hml]; rfl) (a := b6) E_b6 (argsL := []) rfl (lenOf pd_8 rfl) rfl at_276 (pc' := 279) rfl (by decide) (W := 0) (Nat.le_of_eq rfl) (by decide) (by decide) (by decide) (fun T106 h106 Lc106 v106r X106 eH106 hQ106 => ?_)
          obtain ⟨rfl, Nq106, rfl⟩ := hQ106
          have N106 := Fr.app N91 Nq106
          dsimp only [Option.toList, List.cons_append, List.nil_append]
          generalize q_r107 : (if (0 : Int32) = 0 then (1 : Int32) else (0 : Int32)) = r107
          obtain rfl : r107 = (1 : Int32) := by rw [← q_r107]; decide
          exact own_retZ X106 hx hby Bd.notSynchronized Bd.returns (Or.inr rfl) at_279 (by decide) (by decide) eH106 ⟨rfl, N106⟩
set_option maxRecDepth 65536 in
set_option maxHeartbeats 40000000 in
theorem comes_1 {Post : Tables → Env → Array Value → State → Outcome → State → Prop} (hpost : ∀ tb e args s v u, (limb_1_1.after args s (.returned v) u = true ∧ limb_1_2.after args s (.returned v) u = true ∧ True) → FrameEnd s (.returned v) u (Jvm.fieldLocs frame_1_writes args s ++ Jvm.arrayLocs frame_1_arrays args s ++ Jvm.staticLocs frame_1_statics s) 24 128 → Post tb e args s (.returned v) u) :
    ArmFor flags0 classFile x code maxLocals ret World_1 tables_1 room_1 Calls_1 rest_1 Pre_1 Post := by
  intro l hfl _ _ p e ha hc hk s m args below hf hA hF happ hP
  obtain ⟨hcalls, hrest, hpre⟩ := hP
  obtain ⟨-, -, -, hnamed, -, -, -, hat⟩ := (Spec.applies_iff hf).mp happ
  obtain ⟨hg, hn⟩ := and_e (Cond.before_iff.mp (show (Jvm.Cond.and given_1 narrow_1).before args s = true from hpre))
  obtain ⟨gg1, gg2⟩ := and_e hg
  obtain ⟨gg3, gg4⟩ := and_e gg2
  obtain ⟨gg5, gg6⟩ := and_e gg4
  obtain ⟨gg7, gg8⟩ := and_e gg6
  obtain ⟨gg9, gg10⟩ := and_e gg8
  obtain ⟨w0, w1, w2, w3, w4, rfl⟩ : ∃ w0 w1 w2 w3 w4 : Value, args = #[w0, w1, w2, w3, w4] := by
    have hs : args.size = 5 := by simpa [Cond.value, given_1] using gg1
    obtain ⟨L⟩ := args
    match L, hs with
    | [w0, w1, w2, w3, w4], _ => exact ⟨w0, w1, w2, w3, w4, rfl⟩
  have hw := fun d (hd : d ∈ tables_1) => atoms_spec (ws := Jvm.Cond.code x code maxLocals ret :: tables_1) hat d (List.mem_cons_of_mem _ hd)
  have hfit : Fit s := fun {y c} hc i hi => by
    obtain ⟨ha, rfl⟩ := Array.getElem?_eq_some_iff.mp hc
    have q := List.all_eq_true.mp ((Array.all_eq_true_iff_forall_mem.mp hF) _ (Array.getElem_mem ha)) i (List.mem_range.mpr hi)
    simpa [Array.getElem?_eq_getElem hi] using q
  obtain ⟨i0, ei0⟩ := is_v gg3
  obtain rfl : w0 = (.int i0) := Option.some.inj ei0
  obtain ⟨i1, ei1⟩ := is_v gg5
  obtain rfl : w1 = (.int i1) := Option.some.inj ei1
  obtain ⟨i2, ei2⟩ := is_v gg7
  obtain rfl : w2 = (.int i2) := Option.some.inj ei2
  obtain ⟨i3, ei3⟩ := is_v gg9
  obtain rfl : w3 = (.int i3) := Option.some.inj ei3
  obtain ⟨i4, ei4⟩ := is_v gg10
  obtain rfl : w4 = (.int i4) := Option.some.inj ei4
  obtain ⟨n, o, h1, h2, h3, _, L, rfl, ⟨rfl, N⟩, hq⟩ := rm0 l s _ hw tables_1 i0 i1 i2 i3 i4 s.heap s.heap.size (Nat.le_refl _) p e ha hc hk s m _ below hf ((Spec.applies_iff_loose hf).mp happ).1 ⟨rfl, State.Warmed39.refl s, rfl⟩ trivial
  refine ⟨n, _, h1, h2, h3, hpost _ _ _ _ _ _ ⟨Cond.after_iff.mpr rfl, Cond.after_iff.mpr (eq_i res_at (Term.int_eval (1)) rfl), trivial⟩ ⟨hq.1, hq.2.1, (hq.2.2.sift fun y hy => Or.inr (N y hy)).mono (by decide) (by decide)⟩⟩
theorem main_1_1 : Claimed_1_1 := comes_1 fun _ _ _ _ _ _ h hF => ⟨h.1, hF⟩
theorem main_1_2 : Claimed_1_2 := comes_1 fun _ _ _ _ _ _ h hF => ⟨h.2.1, hF⟩
end Jvm.Pilot.@@N@@
namespace Jvm.Pilot.@@N@@
open Jvm Jvm.ClassFile Sem Op Lib Jvm.Free Jvm.Stand Jvm.Pilot.@@N@@.Jvm.D
/-! MADE BY PROGRAM (witnessworld.py) out of the Statement's table words and the real class files: 15 classes; the members and pool entries that the words name. The judged class is class 1, her method 3. -/
namespace start1
open Jvm.ClassFile
def u (s : String) : CpInfo := .utf8 (stringToUtf16 s)
/-- a pool by its gaps: so many unusable entries, then the entry; so many at the end -/
def gap : Nat → List CpInfo → List CpInfo
  | 0, r => r
  | n + 1, r => .unusable :: gap n r
def poolList (es : List (Nat × CpInfo)) (last : Nat) : List CpInfo := es.foldr (fun e r => gap e.1 (e.2 :: r)) (gap last [])
def pool (es : List (Nat × CpInfo)) (last : Nat) : Array CpInfo := ⟨poolList es last⟩
def fileOf (pool : Array CpInfo) (this : Nat) (attrs : Array Attribute := #[]) (ms : Array MethodInfo := #[]) (fl : Nat := 33) (sup : Nat := 0) (ifs : Array Nat := #[]) (fds : Array FieldInfo := #[]) : ClassFile where
  minorVersion := 0
  majorVersion := 65
  constantPool := pool
  accessFlags := fl
  thisClass := this
  superClass := sup
  interfaces := ifs
  fields := fds
  methods := ms
  attributes := attrs
def plain (name : String) (sup : Option ClassId) : Class where
  name := name
  kind := .ordinary
  loader := none
  accessFlags := 33
  super := sup
  interfaces := #[]
  cf := none
  fields := #[]
  methods := #[]
  instanceTypes := #[]
  staticTypes := #[]
  resolved := #[]
  callSites := []
  init := .initialized
  statics := none
  mirror := none

def pool0 : Array CpInfo := pool [(5, u "<init>"), (0, u "()V"), (1, .class_ 10), (1, u "java/lang/Object")] 113

def k0c0 : Code := { maxStack := 0, maxLocals := 1, code := object_method_1_code, exceptionTable := #[], attributes := #[] }
def k0m0 : Method := { name := "<init>", desc := "()V", sig := { parameters := [], returnType := none }, accessFlags := 1, code := some k0c0 }
/-- java/lang/Object -/
def k0 : Class := { plain "java/lang/Object" none with
  accessFlags := 33
  interfaces := #[]
  cf := some (fileOf pool0 8 #[] #[{ accessFlags := 1, nameIndex := 5, descriptorIndex := 6, attributes := #[] }] 33 0 #[] #[])
  fields := #[]
  methods := #[k0m0]
  instanceTypes := #[]
  staticTypes := #[]
  resolved := Array.replicate 124 none
  statics := none }

def pool1 : Array CpInfo := pool [(2, .class_ 4), (1, u "java/lang/Object"), (0, u "<init>"), (0, u "()V"), (0, .methodref 8 9), (0, .class_ 10), (0, .nameAndType 11 12), (0, u "java/lang/Math"), (0, u "min"), (0, u "(JJ)J"), (0, .class_ 14), (0, u "com/example/cross_town/crosstown/solve/NodeHeap"), (0, .methodref 13 16), (0, .nameAndType 5 17), (0, u "(I)V"), (0, .methodref 13 19), (0, .nameAndType 20 21), (0, u "insertOrLower"), (0, u "(ID)V"), (0, .methodref 23 24), (0, .class_ 25), (0, .nameAndType 26 27), (0, u "com/example/cross_town/crosstown/solve/NodeHeapPollPinLaw"), (0, u "min4"), (0, u "([J)J"), (0, .methodref 13 29), (0, .nameAndType 30 31), (0, u "poll"), (0, u "()I"), (0, .methodref 23 33), (0, .nameAndType 34 35), (0, u "ok"), (0, u "(I)Z"), (0, .methodref 13 37), (0, .nameAndType 38 39), (0, u "isEmpty"), (0, u "()Z"), (3, u "law"), (0, u "(IIIII)Z")] 4

def k1m0 : Method := { name := "<init>", desc := "()V", sig := { parameters := [], returnType := none }, accessFlags := 1, code := none }
def k1c1 : Code := { maxStack := 6, maxLocals := 1, code := method_2_code, exceptionTable := #[], attributes := #[] }
def k1m1 : Method := { name := "min4", desc := "([J)J", sig := { parameters := [(.array .long)], returnType := some .long }, accessFlags := 10, code := some k1c1 }
def k1c2 : Code := { maxStack := 2, maxLocals := 1, code := method_3_code, exceptionTable := #[], attributes := #[] }
def k1m2 : Method := { name := "ok", desc := "(I)Z", sig := { parameters := [.int], returnType := some .boolean }, accessFlags := 10, code := some k1c2 }
def k1c3 : Code := { maxStack := 5, maxLocals := 16, code := code, exceptionTable := #[], attributes := #[] }
def k1m3 : Method := { name := "law", desc := "(IIIII)Z", sig := { parameters := [.int, .int, .int, .int, .int], returnType := some .boolean }, accessFlags := 9, code := some k1c3 }
/-- com/example/cross_town/crosstown/solve/NodeHeapPollPinLaw -/
def k1 : Class := { plain "com/example/cross_town/crosstown/solve/NodeHeapPollPinLaw" (some 0) with
  accessFlags := 49
  interfaces := #[]
  cf := some (fileOf pool1 23 #[] #[{ accessFlags := 1, nameIndex := 5, descriptorIndex := 6, attributes := #[] }, { accessFlags := 10, nameIndex := 26, descriptorIndex := 27, attributes := #[] }, { accessFlags := 10, nameIndex := 34, descriptorIndex := 35, attributes := #[] }, { accessFlags := 9, nameIndex := 43, descriptorIndex := 44, attributes := #[] }] 49 2 #[] #[])
  fields := #[]
  methods := #[k1m0, k1m1, k1m2, k1m3]
  instanceTypes := #[]
  staticTypes := #[]
  resolved := Array.replicate 49 none
  statics := none }

def pool2 : Array CpInfo := pool [(1, .methodref 2 3), (0, .class_ 4), (0, .nameAndType 5 6), (0, u "java/lang/Object"), (0, u "<init>"), (0, u "()V"), (0, .fieldref 8 9), (0, .class_ 10), (0, .nameAndType 11 12), (0, u "com/example/cross_town/crosstown/solve/NodeHeap"), (0, u "heap"), (0, u "[I"), (0, .fieldref 8 14), (0, .nameAndType 15 12), (0, u "position"), (0, .fieldref 8 17), (0, .nameAndType 18 19), (0, u "key"), (0, u "[D"), (0, .methodref 21 22), (0, .class_ 23), (0, .nameAndType 24 25), (0, u "java/util/Arrays"), (0, u "fill"), (0, u "([II)V"), (0, .fieldref 8 27), (0, .nameAndType 28 29), (0, u "size"), (0, u "I"), (0, .methodref 8 31), (0, .nameAndType 32 33), (0, u "siftUp"), (0, u "(II)V"), (0, .methodref 8 35), (0, .nameAndType 36 33), (0, u "siftDown"), (0, .methodref 8 38), (0, .nameAndType 39 33), (0, u "place"), (0, u "ABSENT"), (2, u "(I)V"), (2, u "isEmpty"), (0, u "()Z"), (1, u "insertOrLower"), (0, u "(ID)V"), (0, u "poll"), (0, u "()I")] 2

def k2c0 : Code := { maxStack := 2, maxLocals := 2, code := prog_33_method_1_code, exceptionTable := #[], attributes := #[] }
def k2m0 : Method := { name := "<init>", desc := "(I)V", sig := { parameters := [.int], returnType := none }, accessFlags := 0, code := some k2c0 }
def k2c1 : Code := { maxStack := 1, maxLocals := 1, code := prog_33_method_2_code, exceptionTable := #[], attributes := #[] }
def k2m1 : Method := { name := "isEmpty", desc := "()Z", sig := { parameters := [], returnType := some .boolean }, accessFlags := 0, code := some k2c1 }
def k2c2 : Code := { maxStack := 4, maxLocals := 5, code := prog_33_method_3_code, exceptionTable := #[], attributes := #[] }
def k2m2 : Method := { name := "insertOrLower", desc := "(ID)V", sig := { parameters := [.int, .double], returnType := none }, accessFlags := 0, code := some k2c2 }
def k2c3 : Code := { maxStack := 4, maxLocals := 2, code := prog_33_method_4_code, exceptionTable := #[], attributes := #[] }
def k2m3 : Method := { name := "poll", desc := "()I", sig := { parameters := [], returnType := some .int }, accessFlags := 0, code := some k2c3 }
def k2c4 : Code := { maxStack := 4, maxLocals := 5, code := prog_33_method_5_code, exceptionTable := #[], attributes := #[] }
def k2m4 : Method := { name := "siftUp", desc := "(II)V", sig := { parameters := [.int, .int], returnType := none }, accessFlags := 2, code := some k2c4 }
def k2c5 : Code := { maxStack := 5, maxLocals := 5, code := prog_33_method_6_code, exceptionTable := #[], attributes := #[] }
def k2m5 : Method := { name := "siftDown", desc := "(II)V", sig := { parameters := [.int, .int], returnType := none }, accessFlags := 2, code := some k2c5 }
def k2c6 : Code := { maxStack := 3, maxLocals := 3, code := prog_33_method_7_code, exceptionTable := #[], attributes := #[] }
def k2m6 : Method := { name := "place", desc := "(II)V", sig := { parameters := [.int, .int], returnType := none }, accessFlags := 2, code := some k2c6 }
/-- com/example/cross_town/crosstown/solve/NodeHeap -/
def k2 : Class := { plain "com/example/cross_town/crosstown/solve/NodeHeap" (some 0) with
  accessFlags := 48
  interfaces := #[]
  cf := some (fileOf pool2 8 #[] #[{ accessFlags := 0, nameIndex := 5, descriptorIndex := 43, attributes := #[] }, { accessFlags := 0, nameIndex := 46, descriptorIndex := 47, attributes := #[] }, { accessFlags := 0, nameIndex := 49, descriptorIndex := 50, attributes := #[] }, { accessFlags := 0, nameIndex := 51, descriptorIndex := 52, attributes := #[] }, { accessFlags := 2, nameIndex := 32, descriptorIndex := 33, attributes := #[] }, { accessFlags := 2, nameIndex := 36, descriptorIndex := 33, attributes := #[] }, { accessFlags := 2, nameIndex := 39, descriptorIndex := 33, attributes := #[] }] 48 2 #[] #[{ accessFlags := 26, nameIndex := 40, descriptorIndex := 29, attributes := #[] }, { accessFlags := 18, nameIndex := 11, descriptorIndex := 12, attributes := #[] }, { accessFlags := 18, nameIndex := 15, descriptorIndex := 12, attributes := #[] }, { accessFlags := 18, nameIndex := 18, descriptorIndex := 19, attributes := #[] }, { accessFlags := 2, nameIndex := 28, descriptorIndex := 29, attributes := #[] }])
  fields := #[{ name := "ABSENT", type := .int, accessFlags := 26, slot := 0, constantValue := 0 }, { name := "heap", type := (.array .int), accessFlags := 18, slot := 0, constantValue := 0 }, { name := "position", type := (.array .int), accessFlags := 18, slot := 1, constantValue := 0 }, { name := "key", type := (.array .double), accessFlags := 18, slot := 2, constantValue := 0 }, { name := "size", type := .int, accessFlags := 2, slot := 3, constantValue := 0 }]
  methods := #[k2m0, k2m1, k2m2, k2m3, k2m4, k2m5, k2m6]
  instanceTypes := #[(.array .int), (.array .int), (.array .double), .int]
  staticTypes := #[.int]
  resolved := Array.replicate 55 none
  statics := none }

def pool3 : Array CpInfo := pool [(2, .class_ 4), (1, u "java/lang/Object"), (0, u "<init>"), (0, u "()V"), (7, .class_ 16), (1, u "java/util/Arrays"), (57, .class_ 76), (1, u "java/util/Arrays$NaturalOrder"), (36, .class_ 115), (1, u "java/util/Arrays$LegacyMergeSort"), (1, u "Z"), (257, .class_ 376), (0, u "java/util/Arrays$ArrayList"), (68, u "$assertionsDisabled"), (269, u "MIN_ARRAY_SORT_GRAN"), (0, u "I"), (2, u "INSERTIONSORT_THRESHOLD"), (120, u "fill"), (4, u "([II)V"), (129, .class_ 976), (0, u "java/util/Arrays$ArrayItr")] 52

def k3m0 : Method := { name := "<init>", desc := "()V", sig := { parameters := [], returnType := none }, accessFlags := 2, code := none }
def k3c1 : Code := { maxStack := 3, maxLocals := 4, code := jdk_65_method_103_code, exceptionTable := #[], attributes := #[] }
def k3m1 : Method := { name := "fill", desc := "([II)V", sig := { parameters := [(.array .int), .int], returnType := none }, accessFlags := 9, code := some k3c1 }
/-- java/util/Arrays -/
def k3 : Class := { plain "java/util/Arrays" (some 0) with
  accessFlags := 49
  interfaces := #[]
  cf := some (fileOf pool3 14 #[.nestMembers #[975, 375, 113, 74]] #[{ accessFlags := 2, nameIndex := 5, descriptorIndex := 6, attributes := #[] }, { accessFlags := 9, nameIndex := 840, descriptorIndex := 845, attributes := #[] }] 49 2 #[] #[{ accessFlags := 26, nameIndex := 715, descriptorIndex := 716, attributes := #[] }, { accessFlags := 26, nameIndex := 719, descriptorIndex := 716, attributes := #[] }, { accessFlags := 4120, nameIndex := 445, descriptorIndex := 117, attributes := #[] }])
  fields := #[{ name := "MIN_ARRAY_SORT_GRAN", type := .int, accessFlags := 26, slot := 0, constantValue := 0 }, { name := "INSERTIONSORT_THRESHOLD", type := .int, accessFlags := 26, slot := 1, constantValue := 0 }, { name := "$assertionsDisabled", type := .boolean, accessFlags := 4120, slot := 2, constantValue := 0 }]
  methods := #[k3m0, k3m1]
  instanceTypes := #[]
  staticTypes := #[.int, .int, .boolean]
  resolved := Array.replicate 1029 none
  statics := none }

def pool4 : Array CpInfo := pool [(1, .class_ 2), (0, u "java/lang/Math"), (1, .class_ 6), (1, u "java/lang/Object"), (0, u "<init>"), (0, u "()V"), (89, .class_ 100), (1, u "java/lang/Math$RandomNumberGeneratorHolder"), (20, u "(JJ)J"), (50, u "negativeZeroFloatBits"), (0, u "J"), (2, u "negativeZeroDoubleBits"), (24, u "min"), (43, u "$assertionsDisabled"), (0, u "Z"), (91, u "twoToTheDoubleScaleDown"), (0, u "D"), (4, u "twoToTheDoubleScaleUp"), (9, u "E"), (3, u "PI"), (2, u "TAU"), (2, u "DEGREES_TO_RADIANS"), (0, u "RADIANS_TO_DEGREES")] 94

def k4m0 : Method := { name := "<init>", desc := "()V", sig := { parameters := [], returnType := none }, accessFlags := 2, code := none }
def k4c1 : Code := { maxStack := 4, maxLocals := 4, code := jdk_29_method_70_code, exceptionTable := #[], attributes := #[] }
def k4m1 : Method := { name := "min", desc := "(JJ)J", sig := { parameters := [.long, .long], returnType := some .long }, accessFlags := 9, code := some k4c1 }
/-- java/lang/Math -/
def k4 : Class := { plain "java/lang/Math" (some 0) with
  accessFlags := 49
  interfaces := #[]
  cf := some (fileOf pool4 1 #[.nestMembers #[98]] #[{ accessFlags := 2, nameIndex := 7, descriptorIndex := 8, attributes := #[] }, { accessFlags := 9, nameIndex := 201, descriptorIndex := 121, attributes := #[] }] 49 4 #[] #[{ accessFlags := 25, nameIndex := 354, descriptorIndex := 339, attributes := #[] }, { accessFlags := 25, nameIndex := 358, descriptorIndex := 339, attributes := #[] }, { accessFlags := 25, nameIndex := 361, descriptorIndex := 339, attributes := #[] }, { accessFlags := 26, nameIndex := 364, descriptorIndex := 339, attributes := #[] }, { accessFlags := 26, nameIndex := 365, descriptorIndex := 339, attributes := #[] }, { accessFlags := 26, nameIndex := 172, descriptorIndex := 173, attributes := #[] }, { accessFlags := 26, nameIndex := 176, descriptorIndex := 173, attributes := #[] }, { accessFlags := 8, nameIndex := 344, descriptorIndex := 339, attributes := #[] }, { accessFlags := 8, nameIndex := 338, descriptorIndex := 339, attributes := #[] }, { accessFlags := 4120, nameIndex := 245, descriptorIndex := 246, attributes := #[] }])
  fields := #[{ name := "E", type := .double, accessFlags := 25, slot := 0, constantValue := 0 }, { name := "PI", type := .double, accessFlags := 25, slot := 1, constantValue := 0 }, { name := "TAU", type := .double, accessFlags := 25, slot := 2, constantValue := 0 }, { name := "DEGREES_TO_RADIANS", type := .double, accessFlags := 26, slot := 3, constantValue := 0 }, { name := "RADIANS_TO_DEGREES", type := .double, accessFlags := 26, slot := 4, constantValue := 0 }, { name := "negativeZeroFloatBits", type := .long, accessFlags := 26, slot := 5, constantValue := 0 }, { name := "negativeZeroDoubleBits", type := .long, accessFlags := 26, slot := 6, constantValue := 0 }, { name := "twoToTheDoubleScaleUp", type := .double, accessFlags := 8, slot := 7, constantValue := 0 }, { name := "twoToTheDoubleScaleDown", type := .double, accessFlags := 8, slot := 8, constantValue := 0 }, { name := "$assertionsDisabled", type := .boolean, accessFlags := 4120, slot := 9, constantValue := 0 }]
  methods := #[k4m0, k4m1]
  instanceTypes := #[]
  staticTypes := #[.double, .double, .double, .double, .double, .long, .long, .double, .double, .boolean]
  resolved := Array.replicate 460 none
  statics := none }

def pool5 : Array CpInfo := pool [(1, u "java/lang/Cloneable"), (0, .class_ 1), (0, u "java/lang/Object"), (0, .class_ 3)] 3

/-- java/lang/Cloneable -/
def k5 : Class := { plain "java/lang/Cloneable" (some 0) with
  accessFlags := 1537
  interfaces := #[]
  cf := some (fileOf pool5 2 #[] #[] 1537 4 #[] #[])
  fields := #[]
  methods := #[]
  instanceTypes := #[]
  staticTypes := #[]
  resolved := Array.replicate 8 none
  statics := none }

def pool6 : Array CpInfo := pool [(1, u "java/io/Serializable"), (0, .class_ 1), (0, u "java/lang/Object"), (0, .class_ 3)] 3

/-- java/io/Serializable -/
def k6 : Class := { plain "java/io/Serializable" (some 0) with
  accessFlags := 1537
  interfaces := #[]
  cf := some (fileOf pool6 2 #[] #[] 1537 4 #[] #[])
  fields := #[]
  methods := #[]
  instanceTypes := #[]
  staticTypes := #[]
  resolved := Array.replicate 8 none
  statics := none }

/-- the primitive byte -/
def k7 : Class := { plain "byte" none with kind := .primitive 'B', accessFlags := 0x411 }
/-- [B -/
def k8 : Class := { plain "[B" (some 0) with kind := .array 7 .byte, interfaces := #[5, 6], accessFlags := 1041 }

/-- the primitive double -/
def k9 : Class := { plain "double" none with kind := .primitive 'D', accessFlags := 0x411 }
/-- [D -/
def k10 : Class := { plain "[D" (some 0) with kind := .array 9 .double, interfaces := #[5, 6], accessFlags := 1041 }

/-- the primitive int -/
def k11 : Class := { plain "int" none with kind := .primitive 'I', accessFlags := 0x411 }
/-- [I -/
def k12 : Class := { plain "[I" (some 0) with kind := .array 11 .int, interfaces := #[5, 6], accessFlags := 1041 }

/-- the primitive long -/
def k13 : Class := { plain "long" none with kind := .primitive 'J', accessFlags := 0x411 }
/-- [J -/
def k14 : Class := { plain "[J" (some 0) with kind := .array 13 .long, interfaces := #[5, 6], accessFlags := 1041 }

def heap : Heap := #[]
def classes : Array Class := #[k0, k1, k2, k3, k4, k5, k6, k7, k8, k9, k10, k11, k12, k13, k14]
def interned : List (Array UInt16 × Addr) := []
def slotsUsed : Nat := 0
def theMethod : MethodId := ⟨1, 3⟩
def args0 : Array Value := #[.int 5, .int 7, .int 9, .int 2, .int 3]
def aboutOver (below : List Frame) : State where
  vm := { classes := classes, interned := interned.toArray }
  heap := heap
  slotsUsed := slotsUsed
  threads := #[{ frames := .invoking theMethod args0 :: below }]
def below0 : List Frame := [.native { method := ⟨0, 0⟩, args := #[] }]
def about1 : State := aboutOver below0
def p0 : Program := .bare "" "" ""
def e0 : Env := launch0.env 0 0 0
theorem w_frames : about1.frames = Frame.invoking theMethod args0 :: below0 := rfl
set_option maxRecDepth 65536 in
theorem w_args : argsFit about1.vm theMethod args0 = true := by decide +kernel
set_option maxRecDepth 65536 in
theorem w_heap : heapFits about1 = true := by decide +kernel
set_option maxRecDepth 65536 in
theorem w_runnable : about1.curStatus? = some .runnable := by decide +kernel
set_option maxRecDepth 65536 in
theorem w_alone : about1.alone = true := by decide +kernel
set_option maxRecDepth 65536 in
theorem w_named : about1.methodNamed? x = some theMethod := by decide +kernel
set_option maxRecDepth 65536 in
theorem w_hears : about1.hears theMethod below0 = true := by decide +kernel
set_option maxRecDepth 65536 in
theorem w_ripe : about1.ripe theMethod args0 below0 = true := by decide +kernel
theorem w_running : about1.status = .running := rfl
set_option maxRecDepth 65536 in
theorem w_room : about1.hasRoom e0.platform room_1 = true :=
  launch0.hasRoom_least _ room_1 (by decide +kernel) (by decide +kernel) (by decide +kernel) (by decide +kernel) (by decide +kernel) (by decide +kernel)
theorem allAtoms_all (ts : List Jvm.Cond) (a : Array Jvm.Value) (st : Jvm.State) : (allAtoms ts).before a st = ts.all (fun c => c.before a st) := by
  induction ts with
  | nil => rfl
  | cons c t ih =>
    show (Jvm.Cond.and c (allAtoms t)).before a st = _
    rw [Jvm.Cond.before_and, ih, List.all_cons]
def words1 : List Jvm.Cond := Jvm.Cond.code x code maxLocals ret :: tables_1
/-- a 'code' word, met by the world's own term for the bytes: nothing is compared byte by byte -/
theorem code_word {y : MethodName} {bytes : ByteArray} {mx : Nat} {rt : Option FieldType} {a : Array Value} {s : State} {m : MethodId} {meth : Method} {c : Code} (h1 : s.methodNamed? y = some m) (h2 : s.vm.method? m = some meth) (h3 : meth.code = some c) (h4 : c.code = bytes)
    (h5 : (c.maxLocals == mx && c.exceptionTable.isEmpty && decide (c.maxStack ≤ mostOperands) && decide (meth.sig.returnType = rt) && !meth.locks && decide (parseMethodDescriptor y.desc = some meth.sig)) = true) : (Jvm.Cond.code y bytes mx rt).before a s = true := by
  simp only [Bool.and_eq_true, beq_iff_eq, Bool.not_eq_true', decide_eq_true_eq] at h5
  obtain ⟨⟨⟨⟨⟨g1, g2⟩, g3⟩, g4⟩, g5⟩, g6⟩ := h5
  simp [Cond.before, Cond.holds, Cond.value, h1, h2, h3, h4, g1, g2, g3, g4, g5, g6]
def isCode : Jvm.Cond → Bool
  | .code _ _ _ _ => true
  | _ => false
theorem all_split {L : List Jvm.Cond} {P : Jvm.Cond → Bool} (h1 : L.all (fun c => isCode c || P c) = true) (h2 : ∀ c ∈ L.filter isCode, P c = true) : L.all P = true := by
  refine List.all_eq_true.mpr fun c hc => ?_
  have h := List.all_eq_true.mp h1 c hc
  rcases Bool.eq_false_or_eq_true (isCode c) with hi | hi
  · exact h2 c (List.mem_filter.mpr ⟨hc, hi⟩)
  · simpa [hi] using h
set_option maxRecDepth 65536 in
theorem w_c0 : (Jvm.Cond.code x code maxLocals ret).before args0 about1 = true := code_word (m := ⟨1, 3⟩) (meth := k1m3) (c := k1c3) (by decide +kernel) rfl rfl rfl (by decide +kernel)
set_option maxRecDepth 65536 in
theorem w_c1 : (Jvm.Cond.code ({ cls := "com/example/cross_town/crosstown/solve/NodeHeap", name := "<init>", desc := "(I)V" } : Jvm.MethodName) prog_33_method_1_code (2 : Nat) (Option.none : Option Jvm.ClassFile.FieldType)).before args0 about1 = true := code_word (m := ⟨2, 0⟩) (meth := k2m0) (c := k2c0) (by decide +kernel) rfl rfl rfl (by decide +kernel)
set_option maxRecDepth 65536 in
theorem w_c2 : (Jvm.Cond.code ({ cls := "java/lang/Object", name := "<init>", desc := "()V" } : Jvm.MethodName) object_method_1_code (1 : Nat) (Option.none : Option Jvm.ClassFile.FieldType)).before args0 about1 = true := code_word (m := ⟨0, 0⟩) (meth := k0m0) (c := k0c0) (by decide +kernel) rfl rfl rfl (by decide +kernel)
set_option maxRecDepth 65536 in
theorem w_c3 : (Jvm.Cond.code ({ cls := "java/util/Arrays", name := "fill", desc := "([II)V" } : Jvm.MethodName) jdk_65_method_103_code (4 : Nat) (Option.none : Option Jvm.ClassFile.FieldType)).before args0 about1 = true := code_word (m := ⟨3, 1⟩) (meth := k3m1) (c := k3c1) (by decide +kernel) rfl rfl rfl (by decide +kernel)
set_option maxRecDepth 65536 in
theorem w_c4 : (Jvm.Cond.code ({ cls := "com/example/cross_town/crosstown/solve/NodeHeap", name := "insertOrLower", desc := "(ID)V" } : Jvm.MethodName) prog_33_method_3_code (5 : Nat) (Option.none : Option Jvm.ClassFile.FieldType)).before args0 about1 = true := code_word (m := ⟨2, 2⟩) (meth := k2m2) (c := k2c2) (by decide +kernel) rfl rfl rfl (by decide +kernel)
set_option maxRecDepth 65536 in
theorem w_c5 : (Jvm.Cond.code ({ cls := "com/example/cross_town/crosstown/solve/NodeHeap", name := "siftUp", desc := "(II)V" } : Jvm.MethodName) prog_33_method_5_code (5 : Nat) (Option.none : Option Jvm.ClassFile.FieldType)).before args0 about1 = true := code_word (m := ⟨2, 4⟩) (meth := k2m4) (c := k2c4) (by decide +kernel) rfl rfl rfl (by decide +kernel)
set_option maxRecDepth 65536 in
theorem w_c6 : (Jvm.Cond.code ({ cls := "com/example/cross_town/crosstown/solve/NodeHeap", name := "place", desc := "(II)V" } : Jvm.MethodName) prog_33_method_7_code (3 : Nat) (Option.none : Option Jvm.ClassFile.FieldType)).before args0 about1 = true := code_word (m := ⟨2, 6⟩) (meth := k2m6) (c := k2c6) (by decide +kernel) rfl rfl rfl (by decide +kernel)
set_option maxRecDepth 65536 in
theorem w_c7 : (Jvm.Cond.code ({ cls := "com/example/cross_town/crosstown/solve/NodeHeapPollPinLaw", name := "min4", desc := "([J)J" } : Jvm.MethodName) method_2_code (1 : Nat) (Option.some Jvm.ClassFile.FieldType.long)).before args0 about1 = true := code_word (m := ⟨1, 1⟩) (meth := k1m1) (c := k1c1) (by decide +kernel) rfl rfl rfl (by decide +kernel)
set_option maxRecDepth 65536 in
theorem w_c8 : (Jvm.Cond.code ({ cls := "java/lang/Math", name := "min", desc := "(JJ)J" } : Jvm.MethodName) jdk_29_method_70_code (4 : Nat) (Option.some Jvm.ClassFile.FieldType.long)).before args0 about1 = true := code_word (m := ⟨4, 1⟩) (meth := k4m1) (c := k4c1) (by decide +kernel) rfl rfl rfl (by decide +kernel)
set_option maxRecDepth 65536 in
theorem w_c9 : (Jvm.Cond.code ({ cls := "com/example/cross_town/crosstown/solve/NodeHeap", name := "poll", desc := "()I" } : Jvm.MethodName) prog_33_method_4_code (2 : Nat) (Option.some Jvm.ClassFile.FieldType.int)).before args0 about1 = true := code_word (m := ⟨2, 3⟩) (meth := k2m3) (c := k2c3) (by decide +kernel) rfl rfl rfl (by decide +kernel)
set_option maxRecDepth 65536 in
theorem w_c10 : (Jvm.Cond.code ({ cls := "com/example/cross_town/crosstown/solve/NodeHeap", name := "siftDown", desc := "(II)V" } : Jvm.MethodName) prog_33_method_6_code (5 : Nat) (Option.none : Option Jvm.ClassFile.FieldType)).before args0 about1 = true := code_word (m := ⟨2, 5⟩) (meth := k2m5) (c := k2c5) (by decide +kernel) rfl rfl rfl (by decide +kernel)
set_option maxRecDepth 65536 in
theorem w_c11 : (Jvm.Cond.code ({ cls := "com/example/cross_town/crosstown/solve/NodeHeapPollPinLaw", name := "ok", desc := "(I)Z" } : Jvm.MethodName) method_3_code (1 : Nat) (Option.some Jvm.ClassFile.FieldType.boolean)).before args0 about1 = true := code_word (m := ⟨1, 2⟩) (meth := k1m2) (c := k1c2) (by decide +kernel) rfl rfl rfl (by decide +kernel)
set_option maxRecDepth 65536 in
theorem w_c12 : (Jvm.Cond.code ({ cls := "com/example/cross_town/crosstown/solve/NodeHeap", name := "isEmpty", desc := "()Z" } : Jvm.MethodName) prog_33_method_2_code (1 : Nat) (Option.some Jvm.ClassFile.FieldType.boolean)).before args0 about1 = true := code_word (m := ⟨2, 1⟩) (meth := k2m1) (c := k2c1) (by decide +kernel) rfl rfl rfl (by decide +kernel)
def codes1 : List Jvm.Cond := [Jvm.Cond.code x code maxLocals ret, Jvm.Cond.code ({ cls := "com/example/cross_town/crosstown/solve/NodeHeap", name := "<init>", desc := "(I)V" } : Jvm.MethodName) prog_33_method_1_code (2 : Nat) (Option.none : Option Jvm.ClassFile.FieldType), Jvm.Cond.code ({ cls := "java/lang/Object", name := "<init>", desc := "()V" } : Jvm.MethodName) object_method_1_code (1 : Nat) (Option.none : Option Jvm.ClassFile.FieldType), Jvm.Cond.code ({ cls := "java/util/Arrays", name := "fill", desc := "([II)V" } : Jvm.MethodName) jdk_65_method_103_code (4 : Nat) (Option.none : Option Jvm.ClassFile.FieldType), Jvm.Cond.code ({ cls := "com/example/cross_town/crosstown/solve/NodeHeap", name := "insertOrLower", desc := "(ID)V" } : Jvm.MethodName) prog_33_method_3_code (5 : Nat) (Option.none : Option Jvm.ClassFile.FieldType), Jvm.Cond.code ({ cls := "com/example/cross_town/crosstown/solve/NodeHeap", name := "siftUp", desc := "(II)V" } : Jvm.MethodName) prog_33_method_5_code (5 : Nat) (Option.none : Option Jvm.ClassFile.FieldType), Jvm.Cond.code ({ cls := "com/example/cross_town/crosstown/solve/NodeHeap", name := "place", desc := "(II)V" } : Jvm.MethodName) prog_33_method_7_code (3 : Nat) (Option.none : Option Jvm.ClassFile.FieldType), Jvm.Cond.code ({ cls := "com/example/cross_town/crosstown/solve/NodeHeapPollPinLaw", name := "min4", desc := "([J)J" } : Jvm.MethodName) method_2_code (1 : Nat) (Option.some Jvm.ClassFile.FieldType.long), Jvm.Cond.code ({ cls := "java/lang/Math", name := "min", desc := "(JJ)J" } : Jvm.MethodName) jdk_29_method_70_code (4 : Nat) (Option.some Jvm.ClassFile.FieldType.long), Jvm.Cond.code ({ cls := "com/example/cross_town/crosstown/solve/NodeHeap", name := "poll", desc := "()I" } : Jvm.MethodName) prog_33_method_4_code (2 : Nat) (Option.some Jvm.ClassFile.FieldType.int), Jvm.Cond.code ({ cls := "com/example/cross_town/crosstown/solve/NodeHeap", name := "siftDown", desc := "(II)V" } : Jvm.MethodName) prog_33_method_6_code (5 : Nat) (Option.none : Option Jvm.ClassFile.FieldType), Jvm.Cond.code ({ cls := "com/example/cross_town/crosstown/solve/NodeHeapPollPinLaw", name := "ok", desc := "(I)Z" } : Jvm.MethodName) method_3_code (1 : Nat) (Option.some Jvm.ClassFile.FieldType.boolean), Jvm.Cond.code ({ cls := "com/example/cross_town/crosstown/solve/NodeHeap", name := "isEmpty", desc := "()Z" } : Jvm.MethodName) prog_33_method_2_code (1 : Nat) (Option.some Jvm.ClassFile.FieldType.boolean)]
set_option maxRecDepth 65536 in
theorem codes_eq : words1.filter isCode = codes1 := rfl
theorem w_codes : ∀ c ∈ words1.filter isCode, c.before args0 about1 = true := by
  rw [codes_eq]
  intro c hc
  simp only [codes1, List.mem_cons, List.not_mem_nil, or_false] at hc
  rcases hc with rfl | rfl | rfl | rfl | rfl | rfl | rfl | rfl | rfl | rfl | rfl | rfl | rfl
  · exact w_c0
  · exact w_c1
  · exact w_c2
  · exact w_c3
  · exact w_c4
  · exact w_c5
  · exact w_c6
  · exact w_c7
  · exact w_c8
  · exact w_c9
  · exact w_c10
  · exact w_c11
  · exact w_c12
set_option maxRecDepth 65536 in
theorem w_t1 : (words1.take 24).all (fun c => isCode c || c.before args0 about1) = true := by decide +kernel
set_option maxRecDepth 65536 in
theorem w_t2 : ((words1.drop 24).take 24).all (fun c => isCode c || c.before args0 about1) = true := by decide +kernel
set_option maxRecDepth 65536 in
theorem w_t3 : ((words1.drop 24).drop 24).all (fun c => isCode c || c.before args0 about1) = true := by decide +kernel
theorem w_tables : (allAtoms (Jvm.Cond.code x code maxLocals ret :: tables_1)).before args0 about1 = true := by
  rw [allAtoms_all]
  show words1.all (fun c => c.before args0 about1) = true
  refine all_split ?_ w_codes
  rw [← List.take_append_drop 24 words1, List.all_append, w_t1, ← List.take_append_drop 24 (words1.drop 24), List.all_append, w_t2, w_t3]
  rfl
set_option maxRecDepth 65536 in
theorem w_case : (Jvm.Cond.and given_1 narrow_1).before args0 about1 = true := by decide +kernel
theorem w_applies : (headSpec (Jvm.Cond.code x code maxLocals ret :: tables_1) room_1).applies x e0.platform about1 = true :=
  (Spec.applies_iff w_frames).mpr ⟨w_running, w_runnable, w_alone, w_named, w_hears, w_ripe, w_room, w_tables⟩
theorem atStart : AtStart classFile x code maxLocals ret World_1 tables_1 room_1 Calls_1 rest_1 Pre_1 launch0 p0 e0 about1 theMethod args0 below0 :=
  ⟨lists_1, trivial, launch0.admits_env _ _ _, launch0.least_env, fairChoices_fair.cas, fairChoices_fair.clock, w_frames, w_args, w_heap, w_applies, trivial, trivial, w_case⟩
end start1
theorem witness_1 : WitnessClaimed_1 := ⟨start1.p0, start1.e0, start1.about1, start1.theMethod, start1.args0, start1.below0, start1.atStart⟩
end Jvm.Pilot.@@N@@
