import JvmDerived
import JvmDerived.Pilot.@@N@@Statement
import JvmDerived.Pilot.@@N@@Code
set_option linter.unusedVariables false
set_option linter.unusedSimpArgs false
namespace Jvm.Pilot.@@N@@
open Jvm Jvm.ClassFile Sem Op Lib Jvm.Free Jvm.Stand Jvm.LawKit Jvm.RoadKit Jvm.Free.Fl Bundle Jvm.Pilot.@@N@@.Jvm.D
section OwnG
variable {p : Program} {l : Launch} {e : Env} {R : Room} {s : State} {m : MethodId} {args : Array Value} {below : List Frame} {meth : Method} {c : Code} {T : State} {locs : List Loc} {cells slots : Nat} {Z : State} {a0 : Array Value} {h : Heap} {B : ByteArray} {pc pc' : Nat} {L L' : Array Slot} {rest : List Value} {F : Outcome → State → Prop}
def Gt (tb : Tables) (e : Env) (below : List Frame) (F : Outcome → State → Prop) (S : State) : Prop := ∃ s₂ o, Steps tb e below S s₂ ∧ s₂.status = .running ∧ Ended s₂ below o ∧ F o s₂
theorem Gt.go {tb : Tables} {S S' : State} (k : Gt tb e below F S') (q : ∀ t, Steps tb e below S' t → Steps tb e below S t) : Gt tb e below F S := by
  obtain ⟨a, o, h1, h2⟩ := k; exact ⟨a, o, q _ h1, h2⟩
theorem own_join {tb : Tables} {S S' : State} (q : ∀ F', Gt tb e below F' S' → Gt tb e below F' S) (k : Gt tb e below F S') : Gt tb e below F S := q F k
theorem own_cast {tb : Tables} {g g' : JFrame} (q : g = g') (k : Gt tb e below F (T.setTop g')) : Gt tb e below F (T.setTop g) := q ▸ k
theorem own_iadd (X : Stand p l e R s m args below meth c T locs cells slots) (hx : p.tables.exec = Jvm.exec) (hby : c.code = B) {x y v : Int32} (hv : x + y = v) (hd : decode B pc = .ok (.iadd, 1)) (hp : pc + 1 = pc') (k : Gt p.tables e below F (T.setTop (mkF m pc' L (.int v :: rest)))) : Gt p.tables e below F (T.setTop (mkF m pc L (.int y :: .int x :: rest))) := by
  subst hp; exact (by subst hv; exact k.go fun t q => XS.iadd X.here hx rfl (hb hby hd) rfl q)
theorem own_isub (X : Stand p l e R s m args below meth c T locs cells slots) (hx : p.tables.exec = Jvm.exec) (hby : c.code = B) {x y v : Int32} (hv : x - y = v) (hd : decode B pc = .ok (.isub, 1)) (hp : pc + 1 = pc') (k : Gt p.tables e below F (T.setTop (mkF m pc' L (.int v :: rest)))) : Gt p.tables e below F (T.setTop (mkF m pc L (.int y :: .int x :: rest))) := by
  subst hp; exact (by subst hv; exact k.go fun t q => XS.isub X.here hx rfl (hb hby hd) rfl q)
theorem own_imul (X : Stand p l e R s m args below meth c T locs cells slots) (hx : p.tables.exec = Jvm.exec) (hby : c.code = B) {x y v : Int32} (hv : x * y = v) (hd : decode B pc = .ok (.imul, 1)) (hp : pc + 1 = pc') (k : Gt p.tables e below F (T.setTop (mkF m pc' L (.int v :: rest)))) : Gt p.tables e below F (T.setTop (mkF m pc L (.int y :: .int x :: rest))) := by
  subst hp; exact (by subst hv; exact k.go fun t q => XS.imul X.here hx rfl (hb hby hd) rfl q)
theorem own_iand (X : Stand p l e R s m args below meth c T locs cells slots) (hx : p.tables.exec = Jvm.exec) (hby : c.code = B) {x y v : Int32} (hv : x &&& y = v) (hd : decode B pc = .ok (.iand, 1)) (hp : pc + 1 = pc') (k : Gt p.tables e below F (T.setTop (mkF m pc' L (.int v :: rest)))) : Gt p.tables e below F (T.setTop (mkF m pc L (.int y :: .int x :: rest))) := by
  subst hp; exact (by subst hv; exact k.go fun t q => XS.iand X.here hx rfl (hb hby hd) rfl q)
theorem own_ior (X : Stand p l e R s m args below meth c T locs cells slots) (hx : p.tables.exec = Jvm.exec) (hby : c.code = B) {x y v : Int32} (hv : x ||| y = v) (hd : decode B pc = .ok (.ior, 1)) (hp : pc + 1 = pc') (k : Gt p.tables e below F (T.setTop (mkF m pc' L (.int v :: rest)))) : Gt p.tables e below F (T.setTop (mkF m pc L (.int y :: .int x :: rest))) := by
  subst hp; exact (by subst hv; exact k.go fun t q => XS.ior X.here hx rfl (hb hby hd) rfl q)
theorem own_ixor (X : Stand p l e R s m args below meth c T locs cells slots) (hx : p.tables.exec = Jvm.exec) (hby : c.code = B) {x y v : Int32} (hv : x ^^^ y = v) (hd : decode B pc = .ok (.ixor, 1)) (hp : pc + 1 = pc') (k : Gt p.tables e below F (T.setTop (mkF m pc' L (.int v :: rest)))) : Gt p.tables e below F (T.setTop (mkF m pc L (.int y :: .int x :: rest))) := by
  subst hp; exact (by subst hv; exact k.go fun t q => XS.ixor X.here hx rfl (hb hby hd) rfl q)
theorem own_ishl (X : Stand p l e R s m args below meth c T locs cells slots) (hx : p.tables.exec = Jvm.exec) (hby : c.code = B) {x y v : Int32} (hv : x <<< (y &&& 31) = v) (hd : decode B pc = .ok (.ishl, 1)) (hp : pc + 1 = pc') (k : Gt p.tables e below F (T.setTop (mkF m pc' L (.int v :: rest)))) : Gt p.tables e below F (T.setTop (mkF m pc L (.int y :: .int x :: rest))) := by
  subst hp; exact (by subst hv; exact k.go fun t q => XS.ishl X.here hx rfl (hb hby hd) rfl q)
theorem own_ishr (X : Stand p l e R s m args below meth c T locs cells slots) (hx : p.tables.exec = Jvm.exec) (hby : c.code = B) {x y v : Int32} (hv : x >>> (y &&& 31) = v) (hd : decode B pc = .ok (.ishr, 1)) (hp : pc + 1 = pc') (k : Gt p.tables e below F (T.setTop (mkF m pc' L (.int v :: rest)))) : Gt p.tables e below F (T.setTop (mkF m pc L (.int y :: .int x :: rest))) := by
  subst hp; exact (by subst hv; exact k.go fun t q => XS.ishr X.here hx rfl (hb hby hd) rfl q)
theorem own_iushr (X : Stand p l e R s m args below meth c T locs cells slots) (hx : p.tables.exec = Jvm.exec) (hby : c.code = B) {x y v : Int32} (hv : (x.toUInt32 >>> (y &&& 31).toUInt32).toInt32 = v) (hd : decode B pc = .ok (.iushr, 1)) (hp : pc + 1 = pc') (k : Gt p.tables e below F (T.setTop (mkF m pc' L (.int v :: rest)))) : Gt p.tables e below F (T.setTop (mkF m pc L (.int y :: .int x :: rest))) := by
  subst hp; exact (by subst hv; exact k.go fun t q => XS.iushr X.here hx rfl (hb hby hd) rfl q)
theorem own_ladd (X : Stand p l e R s m args below meth c T locs cells slots) (hx : p.tables.exec = Jvm.exec) (hby : c.code = B) {x y v : Int64} (hv : x + y = v) (hd : decode B pc = .ok (.ladd, 1)) (hp : pc + 1 = pc') (k : Gt p.tables e below F (T.setTop (mkF m pc' L (.long v :: rest)))) : Gt p.tables e below F (T.setTop (mkF m pc L (.long y :: .long x :: rest))) := by
  subst hp; exact (by subst hv; exact k.go fun t q => XS.ladd X.here hx rfl (hb hby hd) rfl q)
theorem own_lsub (X : Stand p l e R s m args below meth c T locs cells slots) (hx : p.tables.exec = Jvm.exec) (hby : c.code = B) {x y v : Int64} (hv : x - y = v) (hd : decode B pc = .ok (.lsub, 1)) (hp : pc + 1 = pc') (k : Gt p.tables e below F (T.setTop (mkF m pc' L (.long v :: rest)))) : Gt p.tables e below F (T.setTop (mkF m pc L (.long y :: .long x :: rest))) := by
  subst hp; exact (by subst hv; exact k.go fun t q => XS.lsub X.here hx rfl (hb hby hd) rfl q)
theorem own_lmul (X : Stand p l e R s m args below meth c T locs cells slots) (hx : p.tables.exec = Jvm.exec) (hby : c.code = B) {x y v : Int64} (hv : x * y = v) (hd : decode B pc = .ok (.lmul, 1)) (hp : pc + 1 = pc') (k : Gt p.tables e below F (T.setTop (mkF m pc' L (.long v :: rest)))) : Gt p.tables e below F (T.setTop (mkF m pc L (.long y :: .long x :: rest))) := by
  subst hp; exact (by subst hv; exact k.go fun t q => XS.lmul X.here hx rfl (hb hby hd) rfl q)
theorem own_land (X : Stand p l e R s m args below meth c T locs cells slots) (hx : p.tables.exec = Jvm.exec) (hby : c.code = B) {x y v : Int64} (hv : x &&& y = v) (hd : decode B pc = .ok (.land, 1)) (hp : pc + 1 = pc') (k : Gt p.tables e below F (T.setTop (mkF m pc' L (.long v :: rest)))) : Gt p.tables e below F (T.setTop (mkF m pc L (.long y :: .long x :: rest))) := by
  subst hp; exact (by subst hv; exact k.go fun t q => XS.land X.here hx rfl (hb hby hd) rfl q)
theorem own_lor (X : Stand p l e R s m args below meth c T locs cells slots) (hx : p.tables.exec = Jvm.exec) (hby : c.code = B) {x y v : Int64} (hv : x ||| y = v) (hd : decode B pc = .ok (.lor, 1)) (hp : pc + 1 = pc') (k : Gt p.tables e below F (T.setTop (mkF m pc' L (.long v :: rest)))) : Gt p.tables e below F (T.setTop (mkF m pc L (.long y :: .long x :: rest))) := by
  subst hp; exact (by subst hv; exact k.go fun t q => XS.lor X.here hx rfl (hb hby hd) rfl q)
theorem own_lxor (X : Stand p l e R s m args below meth c T locs cells slots) (hx : p.tables.exec = Jvm.exec) (hby : c.code = B) {x y v : Int64} (hv : x ^^^ y = v) (hd : decode B pc = .ok (.lxor, 1)) (hp : pc + 1 = pc') (k : Gt p.tables e below F (T.setTop (mkF m pc' L (.long v :: rest)))) : Gt p.tables e below F (T.setTop (mkF m pc L (.long y :: .long x :: rest))) := by
  subst hp; exact (by subst hv; exact k.go fun t q => XS.lxor X.here hx rfl (hb hby hd) rfl q)
theorem own_lshl (X : Stand p l e R s m args below meth c T locs cells slots) (hx : p.tables.exec = Jvm.exec) (hby : c.code = B) {x v : Int64} {y : Int32} (hv : x <<< (y &&& 0x3f).toInt64 = v) (hd : decode B pc = .ok (.lshl, 1)) (hp : pc + 1 = pc') (k : Gt p.tables e below F (T.setTop (mkF m pc' L (.long v :: rest)))) : Gt p.tables e below F (T.setTop (mkF m pc L (.int y :: .long x :: rest))) := by
  subst hp; exact (by subst hv; exact k.go fun t q => XS.lshl X.here hx rfl (hb hby hd) rfl q)
theorem own_lshr (X : Stand p l e R s m args below meth c T locs cells slots) (hx : p.tables.exec = Jvm.exec) (hby : c.code = B) {x v : Int64} {y : Int32} (hv : x >>> (y &&& 0x3f).toInt64 = v) (hd : decode B pc = .ok (.lshr, 1)) (hp : pc + 1 = pc') (k : Gt p.tables e below F (T.setTop (mkF m pc' L (.long v :: rest)))) : Gt p.tables e below F (T.setTop (mkF m pc L (.int y :: .long x :: rest))) := by
  subst hp; exact (by subst hv; exact k.go fun t q => XS.lshr X.here hx rfl (hb hby hd) rfl q)
theorem own_lushr (X : Stand p l e R s m args below meth c T locs cells slots) (hx : p.tables.exec = Jvm.exec) (hby : c.code = B) {x v : Int64} {y : Int32} (hv : (x.toUInt64 >>> (y &&& 0x3f).toInt64.toUInt64).toInt64 = v) (hd : decode B pc = .ok (.lushr, 1)) (hp : pc + 1 = pc') (k : Gt p.tables e below F (T.setTop (mkF m pc' L (.long v :: rest)))) : Gt p.tables e below F (T.setTop (mkF m pc L (.int y :: .long x :: rest))) := by
  subst hp; exact (by subst hv; exact k.go fun t q => XS.lushr X.here hx rfl (hb hby hd) rfl q)
theorem own_idiv (X : Stand p l e R s m args below meth c T locs cells slots) (hx : p.tables.exec = Jvm.exec) (hby : c.code = B) {x y v : Int32} (hy : y ≠ 0) (hv : x / y = v) (hd : decode B pc = .ok (.idiv, 1)) (hp : pc + 1 = pc') (k : Gt p.tables e below F (T.setTop (mkF m pc' L (.int v :: rest)))) : Gt p.tables e below F (T.setTop (mkF m pc L (.int y :: .int x :: rest))) := by
  subst hp; exact (by subst hv; exact k.go fun t q => XS.idiv X.here hx rfl (hb hby hd) rfl hy q)
theorem own_irem (X : Stand p l e R s m args below meth c T locs cells slots) (hx : p.tables.exec = Jvm.exec) (hby : c.code = B) {x y v : Int32} (hy : y ≠ 0) (hv : x % y = v) (hd : decode B pc = .ok (.irem, 1)) (hp : pc + 1 = pc') (k : Gt p.tables e below F (T.setTop (mkF m pc' L (.int v :: rest)))) : Gt p.tables e below F (T.setTop (mkF m pc L (.int y :: .int x :: rest))) := by
  subst hp; exact (by subst hv; exact k.go fun t q => iremM X hx rfl (hb hby hd) rfl hy q)
theorem own_ldiv (X : Stand p l e R s m args below meth c T locs cells slots) (hx : p.tables.exec = Jvm.exec) (hby : c.code = B) {x y v : Int64} (hy : y ≠ 0) (hv : x / y = v) (hd : decode B pc = .ok (.ldiv, 1)) (hp : pc + 1 = pc') (k : Gt p.tables e below F (T.setTop (mkF m pc' L (.long v :: rest)))) : Gt p.tables e below F (T.setTop (mkF m pc L (.long y :: .long x :: rest))) := by
  subst hp; exact (by subst hv; exact k.go fun t q => XS.ldiv X.here hx rfl (hb hby hd) rfl hy q)
theorem own_lrem (X : Stand p l e R s m args below meth c T locs cells slots) (hx : p.tables.exec = Jvm.exec) (hby : c.code = B) {x y v : Int64} (hy : y ≠ 0) (hv : x % y = v) (hd : decode B pc = .ok (.lrem, 1)) (hp : pc + 1 = pc') (k : Gt p.tables e below F (T.setTop (mkF m pc' L (.long v :: rest)))) : Gt p.tables e below F (T.setTop (mkF m pc L (.long y :: .long x :: rest))) := by
  subst hp; exact (by subst hv; rw [← lrem_mod] at k; exact k.go fun t q => XS.lrem X.here hx rfl (hb hby hd) rfl hy q)
theorem own_lcmp (X : Stand p l e R s m args below meth c T locs cells slots) (hx : p.tables.exec = Jvm.exec) (hby : c.code = B) {x y : Int64} {v : Int32} (hv : (if x > y then 1 else if x = y then 0 else -1 : Int32) = v) (hd : decode B pc = .ok (.lcmp, 1)) (hp : pc + 1 = pc') (k : Gt p.tables e below F (T.setTop (mkF m pc' L (.int v :: rest)))) : Gt p.tables e below F (T.setTop (mkF m pc L (.long y :: .long x :: rest))) := by
  subst hp; exact (by subst hv; exact k.go fun t q => XS.lcmp X.here hx rfl (hb hby hd) rfl q)
theorem own_ineg (X : Stand p l e R s m args below meth c T locs cells slots) (hx : p.tables.exec = Jvm.exec) (hby : c.code = B) {x v : Int32} (hv : -x = v) (hd : decode B pc = .ok (.ineg, 1)) (hp : pc + 1 = pc') (k : Gt p.tables e below F (T.setTop (mkF m pc' L (.int v :: rest)))) : Gt p.tables e below F (T.setTop (mkF m pc L (.int x :: rest))) := by
  subst hp; exact (by subst hv; exact k.go fun t q => XS.ineg X.here hx rfl (hb hby hd) rfl q)
theorem own_lneg (X : Stand p l e R s m args below meth c T locs cells slots) (hx : p.tables.exec = Jvm.exec) (hby : c.code = B) {x v : Int64} (hv : -x = v) (hd : decode B pc = .ok (.lneg, 1)) (hp : pc + 1 = pc') (k : Gt p.tables e below F (T.setTop (mkF m pc' L (.long v :: rest)))) : Gt p.tables e below F (T.setTop (mkF m pc L (.long x :: rest))) := by
  subst hp; exact (by subst hv; exact k.go fun t q => XS.lneg X.here hx rfl (hb hby hd) rfl q)
theorem own_i2b (X : Stand p l e R s m args below meth c T locs cells slots) (hx : p.tables.exec = Jvm.exec) (hby : c.code = B) {x v : Int32} (hv : x.toInt8.toInt32 = v) (hd : decode B pc = .ok (.i2b, 1)) (hp : pc + 1 = pc') (k : Gt p.tables e below F (T.setTop (mkF m pc' L (.int v :: rest)))) : Gt p.tables e below F (T.setTop (mkF m pc L (.int x :: rest))) := by
  subst hp; exact (by subst hv; exact k.go fun t q => XS.i2b X.here hx rfl (hb hby hd) rfl q)
theorem own_i2c (X : Stand p l e R s m args below meth c T locs cells slots) (hx : p.tables.exec = Jvm.exec) (hby : c.code = B) {x v : Int32} (hv : x.toUInt32.toUInt16.toUInt32.toInt32 = v) (hd : decode B pc = .ok (.i2c, 1)) (hp : pc + 1 = pc') (k : Gt p.tables e below F (T.setTop (mkF m pc' L (.int v :: rest)))) : Gt p.tables e below F (T.setTop (mkF m pc L (.int x :: rest))) := by
  subst hp; exact (by subst hv; exact k.go fun t q => XS.i2c X.here hx rfl (hb hby hd) rfl q)
theorem own_i2s (X : Stand p l e R s m args below meth c T locs cells slots) (hx : p.tables.exec = Jvm.exec) (hby : c.code = B) {x v : Int32} (hv : x.toInt16.toInt32 = v) (hd : decode B pc = .ok (.i2s, 1)) (hp : pc + 1 = pc') (k : Gt p.tables e below F (T.setTop (mkF m pc' L (.int v :: rest)))) : Gt p.tables e below F (T.setTop (mkF m pc L (.int x :: rest))) := by
  subst hp; exact (by subst hv; exact k.go fun t q => XS.i2s X.here hx rfl (hb hby hd) rfl q)
theorem own_i2l (X : Stand p l e R s m args below meth c T locs cells slots) (hx : p.tables.exec = Jvm.exec) (hby : c.code = B) {x : Int32} {v : Int64} (hv : x.toInt64 = v) (hd : decode B pc = .ok (.i2l, 1)) (hp : pc + 1 = pc') (k : Gt p.tables e below F (T.setTop (mkF m pc' L (.long v :: rest)))) : Gt p.tables e below F (T.setTop (mkF m pc L (.int x :: rest))) := by
  subst hp; exact (by subst hv; exact k.go fun t q => XS.i2l X.here hx rfl (hb hby hd) rfl q)
theorem own_l2i (X : Stand p l e R s m args below meth c T locs cells slots) (hx : p.tables.exec = Jvm.exec) (hby : c.code = B) {x : Int64} {v : Int32} (hv : x.toInt32 = v) (hd : decode B pc = .ok (.l2i, 1)) (hp : pc + 1 = pc') (k : Gt p.tables e below F (T.setTop (mkF m pc' L (.int v :: rest)))) : Gt p.tables e below F (T.setTop (mkF m pc L (.long x :: rest))) := by
  subst hp; exact (by subst hv; exact k.go fun t q => XS.l2i X.here hx rfl (hb hby hd) rfl q)
theorem own_iload (X : Stand p l e R s m args below meth c T locs cells slots) (hx : p.tables.exec = Jvm.exec) (hby : c.code = B) {i : Nat} {v : Int32} (hl : L[i]? = some (.val (.int v))) (hd : decode B pc = .ok (.iload i, 2)) (hp : pc + 2 = pc') (k : Gt p.tables e below F (T.setTop (mkF m pc' L (.int v :: rest)))) : Gt p.tables e below F (T.setTop (mkF m pc L rest)) := by
  subst hp; exact k.go fun t q => XS.iload X.here hx rfl (hb hby hd) hl q
theorem own_iloadN (X : Stand p l e R s m args below meth c T locs cells slots) (hx : p.tables.exec = Jvm.exec) (hby : c.code = B) {i : Fin 4} {v : Int32} (hl : L[i.val]? = some (.val (.int v))) (hd : decode B pc = .ok (.iload_n i, 1)) (hp : pc + 1 = pc') (k : Gt p.tables e below F (T.setTop (mkF m pc' L (.int v :: rest)))) : Gt p.tables e below F (T.setTop (mkF m pc L rest)) := by
  subst hp; exact k.go fun t q => XS.iloadN X.here hx rfl (hb hby hd) hl q
theorem own_lload (X : Stand p l e R s m args below meth c T locs cells slots) (hx : p.tables.exec = Jvm.exec) (hby : c.code = B) {i : Nat} {v : Int64} (hl : L[i]? = some (.val (.long v))) (hd : decode B pc = .ok (.lload i, 2)) (hp : pc + 2 = pc') (k : Gt p.tables e below F (T.setTop (mkF m pc' L (.long v :: rest)))) : Gt p.tables e below F (T.setTop (mkF m pc L rest)) := by
  subst hp; exact k.go fun t q => XS.lload X.here hx rfl (hb hby hd) hl q
theorem own_lloadN (X : Stand p l e R s m args below meth c T locs cells slots) (hx : p.tables.exec = Jvm.exec) (hby : c.code = B) {i : Fin 4} {v : Int64} (hl : L[i.val]? = some (.val (.long v))) (hd : decode B pc = .ok (.lload_n i, 1)) (hp : pc + 1 = pc') (k : Gt p.tables e below F (T.setTop (mkF m pc' L (.long v :: rest)))) : Gt p.tables e below F (T.setTop (mkF m pc L rest)) := by
  subst hp; exact k.go fun t q => XS.lloadN X.here hx rfl (hb hby hd) hl q
theorem own_dload (X : Stand p l e R s m args below meth c T locs cells slots) (hx : p.tables.exec = Jvm.exec) (hby : c.code = B) {i : Nat} {v : UInt64} (hl : L[i]? = some (.val (.double v))) (hd : decode B pc = .ok (.dload i, 2)) (hp : pc + 2 = pc') (k : Gt p.tables e below F (T.setTop (mkF m pc' L (.double v :: rest)))) : Gt p.tables e below F (T.setTop (mkF m pc L rest)) := by
  subst hp; exact k.go fun t q => XS.dload X.here hx rfl (hb hby hd) hl q
theorem own_dloadN (X : Stand p l e R s m args below meth c T locs cells slots) (hx : p.tables.exec = Jvm.exec) (hby : c.code = B) {i : Fin 4} {v : UInt64} (hl : L[i.val]? = some (.val (.double v))) (hd : decode B pc = .ok (.dload_n i, 1)) (hp : pc + 1 = pc') (k : Gt p.tables e below F (T.setTop (mkF m pc' L (.double v :: rest)))) : Gt p.tables e below F (T.setTop (mkF m pc L rest)) := by
  subst hp; exact k.go fun t q => XS.dloadN X.here hx rfl (hb hby hd) hl q
theorem own_aload (X : Stand p l e R s m args below meth c T locs cells slots) (hx : p.tables.exec = Jvm.exec) (hby : c.code = B) {i : Nat} {v : Value} (hl : L[i]? = some (.val v)) (hr : v.isRef = true) (hd : decode B pc = .ok (.aload i, 2)) (hp : pc + 2 = pc') (k : Gt p.tables e below F (T.setTop (mkF m pc' L (v :: rest)))) : Gt p.tables e below F (T.setTop (mkF m pc L rest)) := by
  subst hp; exact k.go fun t q => XS.aload X.here hx rfl (hb hby hd) hl hr q
theorem own_aloadN (X : Stand p l e R s m args below meth c T locs cells slots) (hx : p.tables.exec = Jvm.exec) (hby : c.code = B) {i : Fin 4} {v : Value} (hl : L[i.val]? = some (.val v)) (hr : v.isRef = true) (hd : decode B pc = .ok (.aload_n i, 1)) (hp : pc + 1 = pc') (k : Gt p.tables e below F (T.setTop (mkF m pc' L (v :: rest)))) : Gt p.tables e below F (T.setTop (mkF m pc L rest)) := by
  subst hp; exact k.go fun t q => XS.aloadN X.here hx rfl (hb hby hd) hl hr q
theorem own_istore (X : Stand p l e R s m args below meth c T locs cells slots) (hx : p.tables.exec = Jvm.exec) (hby : c.code = B) {i : Nat} {v : Int32} (hl : storeLocals L i (.int v) = some L') (hd : decode B pc = .ok (.istore i, 2)) (hp : pc + 2 = pc') (k : Gt p.tables e below F (T.setTop (mkF m pc' L' rest))) : Gt p.tables e below F (T.setTop (mkF m pc L (.int v :: rest))) := by
  subst hp; exact k.go fun t q => XS.istore X.here hx rfl (hb hby hd) rfl hl q
theorem own_istoreN (X : Stand p l e R s m args below meth c T locs cells slots) (hx : p.tables.exec = Jvm.exec) (hby : c.code = B) {i : Fin 4} {v : Int32} (hl : storeLocals L i.val (.int v) = some L') (hd : decode B pc = .ok (.istore_n i, 1)) (hp : pc + 1 = pc') (k : Gt p.tables e below F (T.setTop (mkF m pc' L' rest))) : Gt p.tables e below F (T.setTop (mkF m pc L (.int v :: rest))) := by
  subst hp; exact k.go fun t q => XS.istoreN X.here hx rfl (hb hby hd) rfl hl q
theorem own_lstore (X : Stand p l e R s m args below meth c T locs cells slots) (hx : p.tables.exec = Jvm.exec) (hby : c.code = B) {i : Nat} {v : Int64} (hl : storeLocals L i (.long v) = some L') (hd : decode B pc = .ok (.lstore i, 2)) (hp : pc + 2 = pc') (k : Gt p.tables e below F (T.setTop (mkF m pc' L' rest))) : Gt p.tables e below F (T.setTop (mkF m pc L (.long v :: rest))) := by
  subst hp; exact k.go fun t q => XS.lstore X.here hx rfl (hb hby hd) rfl hl q
theorem own_lstoreN (X : Stand p l e R s m args below meth c T locs cells slots) (hx : p.tables.exec = Jvm.exec) (hby : c.code = B) {i : Fin 4} {v : Int64} (hl : storeLocals L i.val (.long v) = some L') (hd : decode B pc = .ok (.lstore_n i, 1)) (hp : pc + 1 = pc') (k : Gt p.tables e below F (T.setTop (mkF m pc' L' rest))) : Gt p.tables e below F (T.setTop (mkF m pc L (.long v :: rest))) := by
  subst hp; exact k.go fun t q => XS.lstoreN X.here hx rfl (hb hby hd) rfl hl q
theorem own_dstore (X : Stand p l e R s m args below meth c T locs cells slots) (hx : p.tables.exec = Jvm.exec) (hby : c.code = B) {i : Nat} {v : UInt64} (hl : storeLocals L i (.double v) = some L') (hd : decode B pc = .ok (.dstore i, 2)) (hp : pc + 2 = pc') (k : Gt p.tables e below F (T.setTop (mkF m pc' L' rest))) : Gt p.tables e below F (T.setTop (mkF m pc L (.double v :: rest))) := by
  subst hp; exact k.go fun t q => XS.dstore X.here hx rfl (hb hby hd) rfl hl q
theorem own_dstoreN (X : Stand p l e R s m args below meth c T locs cells slots) (hx : p.tables.exec = Jvm.exec) (hby : c.code = B) {i : Fin 4} {v : UInt64} (hl : storeLocals L i.val (.double v) = some L') (hd : decode B pc = .ok (.dstore_n i, 1)) (hp : pc + 1 = pc') (k : Gt p.tables e below F (T.setTop (mkF m pc' L' rest))) : Gt p.tables e below F (T.setTop (mkF m pc L (.double v :: rest))) := by
  subst hp; exact k.go fun t q => XS.dstoreN X.here hx rfl (hb hby hd) rfl hl q
theorem own_astore (X : Stand p l e R s m args below meth c T locs cells slots) (hx : p.tables.exec = Jvm.exec) (hby : c.code = B) {i : Nat} {v : Value} (hr : v.isRef = true) (hl : storeLocals L i v = some L') (hd : decode B pc = .ok (.astore i, 2)) (hp : pc + 2 = pc') (k : Gt p.tables e below F (T.setTop (mkF m pc' L' rest))) : Gt p.tables e below F (T.setTop (mkF m pc L (v :: rest))) := by
  subst hp; exact k.go fun t q => XS.astore X.here hx rfl (hb hby hd) rfl hr hl q
theorem own_astoreN (X : Stand p l e R s m args below meth c T locs cells slots) (hx : p.tables.exec = Jvm.exec) (hby : c.code = B) {i : Fin 4} {v : Value} (hr : v.isRef = true) (hl : storeLocals L i.val v = some L') (hd : decode B pc = .ok (.astore_n i, 1)) (hp : pc + 1 = pc') (k : Gt p.tables e below F (T.setTop (mkF m pc' L' rest))) : Gt p.tables e below F (T.setTop (mkF m pc L (v :: rest))) := by
  subst hp; exact k.go fun t q => XS.astoreN X.here hx rfl (hb hby hd) rfl hr hl q
theorem own_iinc (X : Stand p l e R s m args below meth c T locs cells slots) (hx : p.tables.exec = Jvm.exec) (hby : c.code = B) {i : Nat} {cst : Int} {x : Int32} (hl : L[i]? = some (.val (.int x))) (hl' : storeLocals L i (.int (x + Int32.ofInt cst)) = some L') (hd : decode B pc = .ok (.iinc i cst, 3)) (hp : pc + 3 = pc') (k : Gt p.tables e below F (T.setTop (mkF m pc' L' rest))) : Gt p.tables e below F (T.setTop (mkF m pc L rest)) := by
  subst hp; exact k.go fun t q => XS.iinc X.here hx rfl (hb hby hd) hl hl' q
theorem own_iconst (X : Stand p l e R s m args below meth c T locs cells slots) (hx : p.tables.exec = Jvm.exec) (hby : c.code = B) {i : Int} {v : Int32} (hv : Int32.ofInt i = v) (hd : decode B pc = .ok (.iconst i, 1)) (hp : pc + 1 = pc') (k : Gt p.tables e below F (T.setTop (mkF m pc' L (.int v :: rest)))) : Gt p.tables e below F (T.setTop (mkF m pc L rest)) := by
  subst hp; exact (by subst hv; exact k.go fun t q => XS.iconst X.here hx rfl (hb hby hd) q)
theorem own_bipush (X : Stand p l e R s m args below meth c T locs cells slots) (hx : p.tables.exec = Jvm.exec) (hby : c.code = B) {i : Int} {v : Int32} (hv : (Int8.ofInt i).toInt32 = v) (hd : decode B pc = .ok (.bipush i, 2)) (hp : pc + 2 = pc') (k : Gt p.tables e below F (T.setTop (mkF m pc' L (.int v :: rest)))) : Gt p.tables e below F (T.setTop (mkF m pc L rest)) := by
  subst hp; exact (by subst hv; exact k.go fun t q => XS.bipush X.here hx rfl (hb hby hd) q)
theorem own_sipush (X : Stand p l e R s m args below meth c T locs cells slots) (hx : p.tables.exec = Jvm.exec) (hby : c.code = B) {i : Int} {v : Int32} (hv : (Int16.ofInt i).toInt32 = v) (hd : decode B pc = .ok (.sipush i, 3)) (hp : pc + 3 = pc') (k : Gt p.tables e below F (T.setTop (mkF m pc' L (.int v :: rest)))) : Gt p.tables e below F (T.setTop (mkF m pc L rest)) := by
  subst hp; exact (by subst hv; exact k.go fun t q => XS.sipush X.here hx rfl (hb hby hd) q)
theorem own_lconst (X : Stand p l e R s m args below meth c T locs cells slots) (hx : p.tables.exec = Jvm.exec) (hby : c.code = B) {i : Fin 2} {v : Int64} (hv : Int64.ofNat i = v) (hd : decode B pc = .ok (.lconst i, 1)) (hp : pc + 1 = pc') (k : Gt p.tables e below F (T.setTop (mkF m pc' L (.long v :: rest)))) : Gt p.tables e below F (T.setTop (mkF m pc L rest)) := by
  subst hp; exact (by subst hv; exact k.go fun t q => XS.lconst X.here hx rfl (hb hby hd) q)
theorem own_aconst (X : Stand p l e R s m args below meth c T locs cells slots) (hx : p.tables.exec = Jvm.exec) (hby : c.code = B)  (hd : decode B pc = .ok (.aconst_null, 1)) (hp : pc + 1 = pc') (k : Gt p.tables e below F (T.setTop (mkF m pc' L (.null :: rest)))) : Gt p.tables e below F (T.setTop (mkF m pc L rest)) := by
  subst hp; exact k.go fun t q => XS.aconstNull X.here hx rfl (hb hby hd) q
theorem own_dconst0 (X : Stand p l e R s m args below meth c T locs cells slots) (hx : p.tables.exec = Jvm.exec) (hby : c.code = B) {v : UInt64} (hv : FP.dconst0 = v) (hd : decode B pc = .ok (.dconst 0, 1)) (hp : pc + 1 = pc') (k : Gt p.tables e below F (T.setTop (mkF m pc' L (.double v :: rest)))) : Gt p.tables e below F (T.setTop (mkF m pc L rest)) := by
  subst hp; exact k.go fun t q => XS.dconst0 X.here hx rfl (hb hby hd) hv q
theorem own_dconst1 (X : Stand p l e R s m args below meth c T locs cells slots) (hx : p.tables.exec = Jvm.exec) (hby : c.code = B) {v : UInt64} (hv : FP.dconst1 = v) (hd : decode B pc = .ok (.dconst 1, 1)) (hp : pc + 1 = pc') (k : Gt p.tables e below F (T.setTop (mkF m pc' L (.double v :: rest)))) : Gt p.tables e below F (T.setTop (mkF m pc L rest)) := by
  subst hp; exact k.go fun t q => XS.dconst1 X.here hx rfl (hb hby hd) hv q
theorem own_dadd (X : Stand p l e R s m args below meth c T locs cells slots) (hx : p.tables.exec = Jvm.exec) (hby : c.code = B) {x y v : UInt64} (hn : NoNaN64 (FP.dadd x y)) (hv : FP.dadd x y = v) (hd : decode B pc = .ok (.dadd, 1)) (hp : pc + 1 = pc') (k : Gt p.tables e below F (T.setTop (mkF m pc' L (.double v :: rest)))) : Gt p.tables e below F (T.setTop (mkF m pc L (.double y :: .double x :: rest))) := by
  subst hp; exact k.go fun t q => XS.daddS X.here hx rfl (hb hby hd) rfl hn hv q
theorem own_dsub (X : Stand p l e R s m args below meth c T locs cells slots) (hx : p.tables.exec = Jvm.exec) (hby : c.code = B) {x y v : UInt64} (hn : NoNaN64 (FP.dsub x y)) (hv : FP.dsub x y = v) (hd : decode B pc = .ok (.dsub, 1)) (hp : pc + 1 = pc') (k : Gt p.tables e below F (T.setTop (mkF m pc' L (.double v :: rest)))) : Gt p.tables e below F (T.setTop (mkF m pc L (.double y :: .double x :: rest))) := by
  subst hp; exact k.go fun t q => XS.dsubS X.here hx rfl (hb hby hd) rfl hn hv q
theorem own_dmul (X : Stand p l e R s m args below meth c T locs cells slots) (hx : p.tables.exec = Jvm.exec) (hby : c.code = B) {x y v : UInt64} (hn : NoNaN64 (FP.dmul x y)) (hv : FP.dmul x y = v) (hd : decode B pc = .ok (.dmul, 1)) (hp : pc + 1 = pc') (k : Gt p.tables e below F (T.setTop (mkF m pc' L (.double v :: rest)))) : Gt p.tables e below F (T.setTop (mkF m pc L (.double y :: .double x :: rest))) := by
  subst hp; exact k.go fun t q => XS.dmulS X.here hx rfl (hb hby hd) rfl hn hv q
theorem own_ddiv (X : Stand p l e R s m args below meth c T locs cells slots) (hx : p.tables.exec = Jvm.exec) (hby : c.code = B) {x y v : UInt64} (hn : NoNaN64 (FP.ddiv x y)) (hv : FP.ddiv x y = v) (hd : decode B pc = .ok (.ddiv, 1)) (hp : pc + 1 = pc') (k : Gt p.tables e below F (T.setTop (mkF m pc' L (.double v :: rest)))) : Gt p.tables e below F (T.setTop (mkF m pc L (.double y :: .double x :: rest))) := by
  subst hp; exact k.go fun t q => XS.ddivS X.here hx rfl (hb hby hd) rfl hn hv q
theorem own_dneg (X : Stand p l e R s m args below meth c T locs cells slots) (hx : p.tables.exec = Jvm.exec) (hby : c.code = B) {x v : UInt64} (hv : FP.dneg x = v) (hd : decode B pc = .ok (.dneg, 1)) (hp : pc + 1 = pc') (k : Gt p.tables e below F (T.setTop (mkF m pc' L (.double v :: rest)))) : Gt p.tables e below F (T.setTop (mkF m pc L (.double x :: rest))) := by
  subst hp; exact k.go fun t q => XS.dnegS X.here hx rfl (hb hby hd) rfl hv q
theorem own_dcmp (X : Stand p l e R s m args below meth c T locs cells slots) (hx : p.tables.exec = Jvm.exec) (hby : c.code = B) {o : CmpOp} {x y : UInt64} {v : Int32} (hv : cmpValue (FP.dcmp x y) o = v) (hd : decode B pc = .ok (.dcmp o, 1)) (hp : pc + 1 = pc') (k : Gt p.tables e below F (T.setTop (mkF m pc' L (.int v :: rest)))) : Gt p.tables e below F (T.setTop (mkF m pc L (.double y :: .double x :: rest))) := by
  subst hp; exact k.go fun t q => XS.dcmpS X.here hx rfl (hb hby hd) rfl hv q
theorem own_i2d (X : Stand p l e R s m args below meth c T locs cells slots) (hx : p.tables.exec = Jvm.exec) (hby : c.code = B) {x : Int32} {v : UInt64} (hv : FP.i2d x = v) (hd : decode B pc = .ok (.i2d, 1)) (hp : pc + 1 = pc') (k : Gt p.tables e below F (T.setTop (mkF m pc' L (.double v :: rest)))) : Gt p.tables e below F (T.setTop (mkF m pc L (.int x :: rest))) := by
  subst hp; exact k.go fun t q => XS.i2dS X.here hx rfl (hb hby hd) rfl hv q
theorem own_l2d (X : Stand p l e R s m args below meth c T locs cells slots) (hx : p.tables.exec = Jvm.exec) (hby : c.code = B) {x : Int64} {v : UInt64} (hv : FP.l2d x = v) (hd : decode B pc = .ok (.l2d, 1)) (hp : pc + 1 = pc') (k : Gt p.tables e below F (T.setTop (mkF m pc' L (.double v :: rest)))) : Gt p.tables e below F (T.setTop (mkF m pc L (.long x :: rest))) := by
  subst hp; exact k.go fun t q => XS.l2dS X.here hx rfl (hb hby hd) rfl hv q
theorem own_dup (X : Stand p l e R s m args below meth c T locs cells slots) (hx : p.tables.exec = Jvm.exec) (hby : c.code = B) {x : Value} (hc : x.category = 1) (hd : decode B pc = .ok (.dup, 1)) (hp : pc + 1 = pc') (k : Gt p.tables e below F (T.setTop (mkF m pc' L (x :: x :: rest)))) : Gt p.tables e below F (T.setTop (mkF m pc L (x :: rest))) := by
  subst hp; exact k.go fun t q => XS.dup X.here hx rfl (hb hby hd) rfl hc q
theorem own_pop (X : Stand p l e R s m args below meth c T locs cells slots) (hx : p.tables.exec = Jvm.exec) (hby : c.code = B) {x : Value} (hc : x.category = 1) (hd : decode B pc = .ok (.pop, 1)) (hp : pc + 1 = pc') (k : Gt p.tables e below F (T.setTop (mkF m pc' L rest))) : Gt p.tables e below F (T.setTop (mkF m pc L (x :: rest))) := by
  subst hp; exact k.go fun t q => XS.pop X.here hx rfl (hb hby hd) rfl hc q
theorem own_dupX1 (X : Stand p l e R s m args below meth c T locs cells slots) (hx : p.tables.exec = Jvm.exec) (hby : c.code = B) {x y : Value} (hc : x.category = 1) (hc' : y.category = 1) (hd : decode B pc = .ok (.dup_x1, 1)) (hp : pc + 1 = pc') (k : Gt p.tables e below F (T.setTop (mkF m pc' L (x :: y :: x :: rest)))) : Gt p.tables e below F (T.setTop (mkF m pc L (x :: y :: rest))) := by
  subst hp; exact k.go fun t q => XS.dupX1 X.here hx rfl (hb hby hd) rfl hc hc' q
theorem own_dup2 (X : Stand p l e R s m args below meth c T locs cells slots) (hx : p.tables.exec = Jvm.exec) (hby : c.code = B) {x y : Value} (hc : x.category = 1) (hc' : y.category = 1) (hd : decode B pc = .ok (.dup2, 1)) (hp : pc + 1 = pc') (k : Gt p.tables e below F (T.setTop (mkF m pc' L (x :: y :: x :: y :: rest)))) : Gt p.tables e below F (T.setTop (mkF m pc L (x :: y :: rest))) := by
  subst hp; exact k.go fun t q => Jvm.Free.XT.dup2 X.here hx rfl (hb hby hd) rfl hc hc' q
theorem own_goto (X : Stand p l e R s m args below meth c T locs cells slots) (hx : p.tables.exec = Jvm.exec) (hby : c.code = B) {o : Int} (hd : decode B pc = .ok (.goto o, 3)) (ho : 0 ≤ (pc : Int) + o) (hp : ((pc : Int) + o).toNat = pc') (k : Gt p.tables e below F (T.setTop (mkF m pc' L rest))) : Gt p.tables e below F (T.setTop (mkF m pc L rest)) :=
  k.go fun t q => XS.goto X.here hx rfl rfl (hb hby hd) ho hp q
theorem own_ifT (X : Stand p l e R s m args below meth c T locs cells slots) (hx : p.tables.exec = Jvm.exec) (hby : c.code = B) {cd : ClassFile.Cond} {x : Int32} {o : Int} (hd : decode B pc = .ok (.ifCond cd o, 3)) (hc : ifCond.holds cd x = true) (ho : 0 ≤ (pc : Int) + o) (hp : ((pc : Int) + o).toNat = pc') (k : Gt p.tables e below F (T.setTop (mkF m pc' L rest))) : Gt p.tables e below F (T.setTop (mkF m pc L (.int x :: rest))) :=
  k.go fun t q => XS.ifYes X.here hx rfl rfl (hb hby hd) rfl hc ho hp q
theorem own_ifF (X : Stand p l e R s m args below meth c T locs cells slots) (hx : p.tables.exec = Jvm.exec) (hby : c.code = B) {cd : ClassFile.Cond} {x : Int32} {o : Int} (hd : decode B pc = .ok (.ifCond cd o, 3)) (hc : ifCond.holds cd x = false) (hp : pc + 3 = pc') (k : Gt p.tables e below F (T.setTop (mkF m pc' L rest))) : Gt p.tables e below F (T.setTop (mkF m pc L (.int x :: rest))) := by
  subst hp; exact k.go fun t q => XS.ifNo X.here hx rfl (hb hby hd) rfl hc q
theorem own_icT (X : Stand p l e R s m args below meth c T locs cells slots) (hx : p.tables.exec = Jvm.exec) (hby : c.code = B) {cd : ClassFile.Cond} {x y : Int32} {o : Int} (hd : decode B pc = .ok (.if_icmp cd o, 3)) (hc : if_icmp.holds cd x y = true) (ho : 0 ≤ (pc : Int) + o) (hp : ((pc : Int) + o).toNat = pc') (k : Gt p.tables e below F (T.setTop (mkF m pc' L rest))) : Gt p.tables e below F (T.setTop (mkF m pc L (.int y :: .int x :: rest))) :=
  k.go fun t q => XS.icmpYes X.here hx rfl rfl (hb hby hd) rfl hc ho hp q
theorem own_icF (X : Stand p l e R s m args below meth c T locs cells slots) (hx : p.tables.exec = Jvm.exec) (hby : c.code = B) {cd : ClassFile.Cond} {x y : Int32} {o : Int} (hd : decode B pc = .ok (.if_icmp cd o, 3)) (hc : if_icmp.holds cd x y = false) (hp : pc + 3 = pc') (k : Gt p.tables e below F (T.setTop (mkF m pc' L rest))) : Gt p.tables e below F (T.setTop (mkF m pc L (.int y :: .int x :: rest))) := by
  subst hp; exact k.go fun t q => XS.icmpNo X.here hx rfl (hb hby hd) rfl hc q
theorem own_ifnullT (X : Stand p l e R s m args below meth c T locs cells slots) (hx : p.tables.exec = Jvm.exec) (hby : c.code = B) {o : Int} (hd : decode B pc = .ok (.ifnull o, 3)) (ho : 0 ≤ (pc : Int) + o) (hp : ((pc : Int) + o).toNat = pc') (k : Gt p.tables e below F (T.setTop (mkF m pc' L rest))) : Gt p.tables e below F (T.setTop (mkF m pc L (.null :: rest))) :=
  k.go fun t q => XS.ifnullYes X.here hx rfl rfl (hb hby hd) rfl ho hp q
theorem own_ifnullF (X : Stand p l e R s m args below meth c T locs cells slots) (hx : p.tables.exec = Jvm.exec) (hby : c.code = B) {o : Int} {b : Addr} (hd : decode B pc = .ok (.ifnull o, 3)) (hp : pc + 3 = pc') (k : Gt p.tables e below F (T.setTop (mkF m pc' L rest))) : Gt p.tables e below F (T.setTop (mkF m pc L (.ref b :: rest))) := by
  subst hp; exact k.go fun t q => XS.ifnullNo X.here hx rfl (hb hby hd) rfl q
theorem own_ifnonnullT (X : Stand p l e R s m args below meth c T locs cells slots) (hx : p.tables.exec = Jvm.exec) (hby : c.code = B) {o : Int} {b : Addr} (hd : decode B pc = .ok (.ifnonnull o, 3)) (ho : 0 ≤ (pc : Int) + o) (hp : ((pc : Int) + o).toNat = pc') (k : Gt p.tables e below F (T.setTop (mkF m pc' L rest))) : Gt p.tables e below F (T.setTop (mkF m pc L (.ref b :: rest))) :=
  k.go fun t q => XS.ifnonnullYes X.here hx rfl rfl (hb hby hd) rfl ho hp q
theorem own_ifnonnullF (X : Stand p l e R s m args below meth c T locs cells slots) (hx : p.tables.exec = Jvm.exec) (hby : c.code = B) {o : Int} (hd : decode B pc = .ok (.ifnonnull o, 3)) (hp : pc + 3 = pc') (k : Gt p.tables e below F (T.setTop (mkF m pc' L rest))) : Gt p.tables e below F (T.setTop (mkF m pc L (.null :: rest))) := by
  subst hp; exact k.go fun t q => XS.ifnonnullNo X.here hx rfl (hb hby hd) rfl q
theorem own_acmp (X : Stand p l e R s m args below meth c T locs cells slots) (hx : p.tables.exec = Jvm.exec) (hby : c.code = B) {cd : ACond} {x y : Value} (h1 : x.isRef = true) (h2 : y.isRef = true) {o : Int} {same : Bool} (hd : decode B pc = .ok (.if_acmp cd o, 3)) (hq : decide (x = y) = same) (ho : 0 ≤ (pc : Int) + o) (hp : pc' = if acV cd same = true then ((pc : Int) + o).toNat else pc + 3) (k : Gt p.tables e below F (T.setTop (mkF m pc' L rest))) : Gt p.tables e below F (T.setTop (mkF m pc L (y :: x :: rest))) :=
  k.go fun t q => Jvm.RoadKit.acmp X hx rfl h1 h2 rfl (hb hby hd) rfl hq ho hp q
theorem own_ldcI (X : Stand p l e R s m args below meth c T locs cells slots) (hx : p.tables.exec = Jvm.exec) (hby : c.code = B) (hZ : Z.Warmed39 s.vm) {own : String} {i : Nat} {v : Int32} (hown : s.vm.findClass own = some m.cls) (w : (Jvm.Cond.constant own i v).before a0 Z = true) (hd : decode B pc = .ok (.ldc i, 2)) (hp : pc + 2 = pc') (k : Gt p.tables e below F (T.setTop (mkF m pc' L (.int v :: rest)))) : Gt p.tables e below F (T.setTop (mkF m pc L rest)) := by
  subst hp; exact k.go (X.ldcInt hx hown (mvT hZ w) (g := mkF m pc L rest) rfl (hb hby hd))
theorem own_ldc2L (X : Stand p l e R s m args below meth c T locs cells slots) (hx : p.tables.exec = Jvm.exec) (hby : c.code = B) (hZ : Z.Warmed39 s.vm) {own : String} {i : Nat} {v : Int64} (hown : s.vm.findClass own = some m.cls) (w : (Jvm.Cond.constantLong own i v).before a0 Z = true) (hd : decode B pc = .ok (.ldc2_w i, 3)) (hp : pc + 3 = pc') (k : Gt p.tables e below F (T.setTop (mkF m pc' L (.long v :: rest)))) : Gt p.tables e below F (T.setTop (mkF m pc L rest)) := by
  subst hp; exact k.go (X.ldc2Long hx hown (mvT hZ w) (g := mkF m pc L rest) rfl (hb hby hd))
theorem own_ldc2D (X : Stand p l e R s m args below meth c T locs cells slots) (hx : p.tables.exec = Jvm.exec) (hby : c.code = B) (hZ : Z.Warmed39 s.vm) {own : String} {i : Nat} {v : UInt64} (hown : s.vm.findClass own = some m.cls) (w : (Jvm.Cond.constantDouble own i v).before a0 Z = true) (hd : decode B pc = .ok (.ldc2_w i, 3)) (hp : pc + 3 = pc') (k : Gt p.tables e below F (T.setTop (mkF m pc' L (.double v :: rest)))) : Gt p.tables e below F (T.setTop (mkF m pc L rest)) := by
  subst hp; exact k.go (X.ldc2DoubleC hx hown (mvT hZ w) (g := mkF m pc L rest) rfl (hb hby hd))
theorem own_getF (X : Stand p l e R s m args below meth c T locs cells slots) (hx : p.tables.exec = Jvm.exec) (hby : c.code = B) (hZ : Z.Warmed39 s.vm) {own R0 O n d host : String} {index : Nat} (hown : s.vm.findClass own = some m.cls) (w : (Jvm.Cond.fieldLink own index R0 n d).before a0 Z = true ∨ (Jvm.Cond.fieldLinkNest own index R0 n d host).before a0 Z = true) (via : Via Z R0 O n d) (eT : T.heap = h) {a : Addr} {v : Value} (Ff : Fld Z h a O n d v) (hd : decode B pc = .ok (.getfield index, 3)) (hp : pc + 3 = pc') (k : ∀ T', Stand p l e R s m args below meth c T' locs cells slots → T'.heap = h → Gt p.tables e below F (T'.setTop (mkF m pc' L (v :: rest)))) : Gt p.tables e below F (T.setTop (mkF m pc L (.ref a :: rest))) := by
  subst hp; obtain ⟨T', X', e', st⟩ := getF X hx hZ hown w via eT Ff (g := mkF m pc L (.ref a :: rest)) rfl rfl (hb hby hd); exact (k T' X' e').go st
theorem own_getS (X : Stand p l e R s m args below meth c T locs cells slots) (hx : p.tables.exec = Jvm.exec) (hby : c.code = B) (hZ : Z.Warmed39 s.vm) {own R0 O n d host : String} {index : Nat} (hown : s.vm.findClass own = some m.cls) (w : (Jvm.Cond.fieldLink own index R0 n d).before a0 Z = true ∨ (Jvm.Cond.fieldLinkNest own index R0 n d host).before a0 Z = true) (via : Via Z R0 O n d) (eT : T.heap = h) {v : Value} (Ff : Sta Z h O n d v) (hd : decode B pc = .ok (.getstatic index, 3)) (hp : pc + 3 = pc') (k : ∀ T', Stand p l e R s m args below meth c T' locs cells slots → T'.heap = h → Gt p.tables e below F (T'.setTop (mkF m pc' L (v :: rest)))) : Gt p.tables e below F (T.setTop (mkF m pc L rest)) := by
  subst hp; obtain ⟨T', X', e', st⟩ := getS2 X hx hZ hown w via eT Ff (g := mkF m pc L rest) rfl (hb hby hd); exact (k T' X' e').go st
theorem own_putF (X : Stand p l e R s m args below meth c T locs cells slots) (hx : p.tables.exec = Jvm.exec) (hby : c.code = B) (hZ : Z.Warmed39 s.vm) {own R0 O n d host C : String} {index kk : Nat} {ty : FieldType} (hown : s.vm.findClass own = some m.cls) (w : (Jvm.Cond.fieldLink own index R0 n d).before a0 Z = true ∨ (Jvm.Cond.fieldLinkNest own index R0 n d host).before a0 Z = true) (via : Via Z R0 O n d) (eT : T.heap = h) {a : Addr} {v old : Value} (Ff : Fld Z h a O n d old) (E : Exa Z h a C) (La : (Jvm.Cond.lays C O n d).before a0 Z = true ∨ ((Jvm.Cond.laysFinal C O n d).before a0 Z = true ∧ own = O ∧ meth.name = "<init>")) (wi : (Jvm.Cond.instantiable C kk).before a0 Z = true) (hty : parseFieldDescriptor d = some ty) (hn : narrow ty v = v) (hf : fits ty v = true) (hd : decode B pc = .ok (.putfield index, 3)) (hp : pc + 3 = pc') (k : ∀ T' h', Stand p l e R s m args below meth c T' (locs ++ [⟨a, Jvm.RoadKit.slotOf Z O n d⟩]) cells slots → T'.heap = h' → Wr h h' a (Jvm.RoadKit.slotOf Z O n d) v → Gt p.tables e below F (T'.setTop (mkF m pc' L rest))) : Gt p.tables e below F (T.setTop (mkF m pc L (v :: .ref a :: rest))) := by
  subst hp; obtain ⟨T', h', X', e', W, st⟩ := putF X hx hZ hown w via eT Ff E La wi hty hn hf (g := mkF m pc L (v :: .ref a :: rest)) rfl rfl (hb hby hd); exact (k T' h' X' e' W).go st
theorem own_newO (X : Stand p l e R s m args below meth c T locs cells slots) (hx : p.tables.exec = Jvm.exec) (hby : c.code = B) (hZ : Z.Warmed39 s.vm) {own C : String} {index n : Nat} (hown : s.vm.findClass own = some m.cls) (w : (Jvm.Cond.classLink own index C).before a0 Z = true) (wi : (Jvm.Cond.instantiable C n).before a0 Z = true) (wz : (Jvm.Cond.initialized C).before a0 Z = true) (eT : T.heap = h) (hd : decode B pc = .ok (.new index, 3)) (hp : pc + 3 = pc') (hc : cells + 1 ≤ R.cells) (hl : slots + n ≤ R.slots) (k : ∀ T' h' a, Stand p l e R s m args below meth c T' locs (cells + 1) (slots + n) → T'.heap = h' → Ext h h' → h.size = a → Exa Z h' a C → (∀ {O nm d : String} {ty : FieldType}, Laid Z a0 C O nm d → parseFieldDescriptor d = some ty → Fld Z h' a O nm d (defaultValue ty)) → Gt p.tables e below F (T'.setTop (mkF m pc' L (.ref a :: rest)))) : Gt p.tables e below F (T.setTop (mkF m pc L rest)) := by
  subst hp; obtain ⟨T', h', X', e', E', A', D', -, st⟩ := newO X hx hZ hown w wi wz eT (g := mkF m pc L rest) rfl (hb hby hd) hc hl; exact (k T' h' _ X' e' E' rfl A' D').go st
theorem own_initO (X : Stand p l e R s m args below meth c T locs cells slots) (hx : p.tables.exec = Jvm.exec) (hby : c.code = B) (hZ : Z.Warmed39 s.vm) {own : String} {idx : Nat} (hown : s.vm.findClass own = some m.cls) (w1 : (Jvm.Cond.methodLink own idx Lib.objectInit).before a0 Z = true) (w2 : (Jvm.Cond.instanceMethod Lib.objectInit).before a0 Z = true) (w3 : (Jvm.Cond.code Lib.objectInit ⟨#[0xb1]⟩ 1 none).before a0 Z = true) (eT : T.heap = h) (hsize : L.size = c.maxLocals) {a : Addr} (hd : decode B pc = .ok (.invokespecial idx, 3)) (hp : pc + 3 = pc') (hf : 1 ≤ R.frames) {W : Nat} (hW : (rest.map fun v => v.category).sum ≤ W) (hl : W + 12 ≤ R.locals) (k : ∀ T', Stand p l e R s m args below meth c T' locs cells slots → T'.heap = h → Gt p.tables e below F (T'.setTop (mkF m pc' L rest))) : Gt p.tables e below F (T.setTop (mkF m pc L (.ref a :: rest))) := by
  subst hp; obtain ⟨T', X', e', st⟩ := initO X hx hZ hown w1 w2 w3 eT (g := mkF m pc L (.ref a :: rest)) rfl hsize rfl (hb hby hd) hf (W := W) (by show 2 * 0 + _ ≤ _; rw [Nat.mul_zero, Nat.zero_add]; exact hW) hl; exact (k T' X' e').go st
theorem own_special (X : Stand p l e R s m args below meth c T locs cells slots) (hx : p.tables.exec = Jvm.exec) (hby : c.code = B) (hZ : Z.Warmed39 s.vm) {own : String} {index : Nat} {y : MethodName} {bytes : ByteArray} {maxL : Nat} {ret : Option FieldType} {rm : Room} {as' : Array Value} {Q : Option Value → Heap → List Loc → Prop} (hy1 : y.name = "<init>") (hown : s.vm.findClass own = some m.cls) (w1 : (Jvm.Cond.methodLink own index y).before a0 Z = true) (w2 : (Jvm.Cond.instanceMethod y).before a0 Z = true) (hret : ret = none) (w3 : (Jvm.Cond.code y bytes maxL ret).before a0 Z = true) (w4 : (Jvm.Cond.initialized y.cls).before a0 Z = true) (hy : y.cls ≠ "java/lang/invoke/MethodHandle" ∧ y.cls ≠ "java/lang/invoke/VarHandle") (hM : MetFree l y (head1 [Jvm.Cond.code y bytes maxL ret] rm) (fun a U => a = as' ∧ Z.Warmed39 U.vm ∧ U.heap = h) (fun _ _ _ _ _ => True) (fun _ U o U' => ∃ v L, o = .returned v ∧ Q v U'.heap L ∧ FrameEnd U o U' L rm.cells rm.slots)) (eT : T.heap = h) (hsize : L.size = c.maxLocals) {a : Addr} {argsL : List Value} (has : as' = (.ref a :: argsL).toArray) (hlen : ∀ sig, parseMethodDescriptor y.desc = some sig → argsL.length = sig.parameters.length) {st : List Value} (hst : st = argsL.reverse ++ .ref a :: rest) (hd : decode B pc = .ok (.invokespecial index, 3)) (hp : pc + 3 = pc') (hf : rm.frames + 1 ≤ R.frames) {W : Nat} (hW : (rest.map fun v => v.category).sum ≤ W) (hl : W + (maxL + 11) + rm.locals ≤ R.locals) (hc : cells + rm.cells ≤ R.cells) (hs : slots + rm.slots ≤ R.slots) (k : ∀ T' h' L' v, Stand p l e R s m args below meth c T' (locs ++ L') (cells + rm.cells) (slots + rm.slots) → T'.heap = h' → Q v h' L' → Gt p.tables e below F (T'.setTop (mkF m pc' L (v.toList ++ rest)))) : Gt p.tables e below F (T.setTop (mkF m pc L st)) := by
  subst hp hret has hst
  obtain ⟨v, vm1, ⟨T', L1, k1, n1⟩, -, X', ⟨Lc, hQ, l1, l2, l3⟩, st⟩ := X.specialBack hx (y := y) hy1 hown (mvT hZ w1) (mvT hZ w2) (mvT hZ w3) hy (backOf (W := W) hM hZ w3 w4 hf hl) (g := mkF m pc L (argsL.reverse ++ .ref a :: rest)) rfl hsize (Steps.refl _) (a := a) (argsL := argsL) (rest := rest) hlen rfl (by show 2 * 0 + _ ≤ _; rw [Nat.mul_zero, Nat.zero_add]; exact hW) (hb hby hd) (fun _ _ => ⟨rfl, eT, hc, hs⟩)
  dsimp only [Pt.U, Pt.locs, Pt.cells, Pt.slots] at X' l1 l2 l3 st hQ
  subst l1 l2 l3
  exact (k T' _ Lc v X' rfl hQ).go fun t q => st.trans q
theorem own_virtual (X : Stand p l e R s m args below meth c T locs cells slots) (hx : p.tables.exec = Jvm.exec) (hby : c.code = B) (hZ : Z.Warmed39 s.vm) {own : String} {index : Nat} {y : MethodName} {bytes : ByteArray} {maxL : Nat} {ret : Option FieldType} {rm : Room} {as' : Array Value} {Q : Option Value → Heap → List Loc → Prop} {C : String} {y' : MethodName} (hown : s.vm.findClass own = some m.cls) (w1 : (Jvm.Cond.methodLink own index y').before a0 Z = true) (w2 : (Jvm.Cond.declares y').before a0 Z = true) (hnf : NotFace s y') (w5 : (Jvm.Cond.selects C y' y).before a0 Z = true) (w6 : (Jvm.Cond.instanceMethod y).before a0 Z = true) (w3 : (Jvm.Cond.code y bytes maxL ret).before a0 Z = true) (w4 : (Jvm.Cond.initialized y.cls).before a0 Z = true) (hy : y'.cls ≠ "java/lang/invoke/MethodHandle" ∧ y'.cls ≠ "java/lang/invoke/VarHandle") (hM : MetFree l y (head1 [Jvm.Cond.code y bytes maxL ret] rm) (fun a U => a = as' ∧ Z.Warmed39 U.vm ∧ U.heap = h) (fun _ _ _ _ _ => True) (fun _ U o U' => ∃ v L, o = .returned v ∧ Q v U'.heap L ∧ FrameEnd U o U' L rm.cells rm.slots)) (eT : T.heap = h) (hsize : L.size = c.maxLocals) {a : Addr} (E : Exa Z h a C) {argsL : List Value} (has : as' = (.ref a :: argsL).toArray) (hlen : ∀ sig, parseMethodDescriptor y'.desc = some sig → argsL.length = sig.parameters.length) {st : List Value} (hst : st = argsL.reverse ++ .ref a :: rest) (hd : decode B pc = .ok (.invokevirtual index, 3)) (hp : pc + 3 = pc') (hf : rm.frames + 1 ≤ R.frames) {W : Nat} (hW : (rest.map fun v => v.category).sum ≤ W) (hl : W + (maxL + 11) + rm.locals ≤ R.locals) (hc : cells + rm.cells ≤ R.cells) (hs : slots + rm.slots ≤ R.slots) (k : ∀ T' h' L' v, Stand p l e R s m args below meth c T' (locs ++ L') (cells + rm.cells) (slots + rm.slots) → T'.heap = h' → Q v h' L' → Gt p.tables e below F (T'.setTop (mkF m pc' L (v.toList ++ rest)))) : Gt p.tables e below F (T.setTop (mkF m pc L st)) := by
  subst hp has hst
  obtain ⟨cq, kq, qa, qb, qc⟩ := isOf hZ eT E
  obtain ⟨v, vm1, ⟨T', L1, k1, n1⟩, -, X', ⟨Lc, hQ, l1, l2, l3⟩, st⟩ := X.virtualBack hx (y := y') (z := y) hown (mvT hZ w1) (mvT hZ w2) hnf (mvT hZ w5) (mvT hZ w6) hy (backOf (W := W) hM hZ w3 w4 hf hl) qa qc (g := mkF m pc L (argsL.reverse ++ .ref a :: rest)) rfl hsize (Steps.refl _) (argsL := argsL) (rest := rest) hlen rfl (by show 2 * 0 + _ ≤ _; rw [Nat.mul_zero, Nat.zero_add]; exact hW) (hb hby hd) (fun _ _ => ⟨rfl, eT, hc, hs⟩)
  dsimp only [Pt.U, Pt.locs, Pt.cells, Pt.slots] at X' l1 l2 l3 st hQ
  subst l1 l2 l3
  exact (k T' _ Lc v X' rfl hQ).go fun t q => st.trans q
theorem own_static (X : Stand p l e R s m args below meth c T locs cells slots) (hx : p.tables.exec = Jvm.exec) (hby : c.code = B) (hZ : Z.Warmed39 s.vm) {own : String} {index : Nat} {y : MethodName} {bytes : ByteArray} {maxL : Nat} {ret : Option FieldType} {rm : Room} {as' : Array Value} {Q : Option Value → Heap → List Loc → Prop} (hown : s.vm.findClass own = some m.cls) (w1 : (Jvm.Cond.methodLink own index y).before a0 Z = true) (w2 : (Jvm.Cond.static y).before a0 Z = true) (w3 : (Jvm.Cond.code y bytes maxL ret).before a0 Z = true) (w4 : (Jvm.Cond.initialized y.cls).before a0 Z = true) (hy : y.cls ≠ "java/lang/invoke/MethodHandle" ∧ y.cls ≠ "java/lang/invoke/VarHandle") (hM : MetFree l y (head1 [Jvm.Cond.code y bytes maxL ret] rm) (fun a U => a = as' ∧ Z.Warmed39 U.vm ∧ U.heap = h) (fun _ _ _ _ _ => True) (fun _ U o U' => ∃ v L, o = .returned v ∧ Q v U'.heap L ∧ FrameEnd U o U' L rm.cells rm.slots)) (eT : T.heap = h) (hsize : L.size = c.maxLocals) {argsL : List Value} (has : as' = argsL.toArray) (hlen : ∀ sig, parseMethodDescriptor y.desc = some sig → argsL.length = sig.parameters.length) {st : List Value} (hst : st = argsL.reverse ++ rest) (hd : decode B pc = .ok (.invokestatic index, 3)) (hp : pc + 3 = pc') (hf : rm.frames + 1 ≤ R.frames) {W : Nat} (hW : (rest.map fun v => v.category).sum ≤ W) (hl : W + (maxL + 11) + rm.locals ≤ R.locals) (hc : cells + rm.cells ≤ R.cells) (hs : slots + rm.slots ≤ R.slots) (k : ∀ T' h' L' v, Stand p l e R s m args below meth c T' (locs ++ L') (cells + rm.cells) (slots + rm.slots) → T'.heap = h' → Q v h' L' → Gt p.tables e below F (T'.setTop (mkF m pc' L (v.toList ++ rest)))) : Gt p.tables e below F (T.setTop (mkF m pc L st)) := by
  subst hp has hst
  obtain ⟨v, vm1, ⟨T', L1, k1, n1⟩, -, X', ⟨Lc, hQ, l1, l2, l3⟩, st⟩ := Jvm.LawKit.callS X hx (y := y) hown (mvT hZ w1) (mvT hZ w2) (mvT hZ w4) (mvT hZ w3) hy (backOf (W := W) hM hZ w3 w4 hf hl) (g := mkF m pc L (argsL.reverse ++ rest)) rfl hsize (argsL := argsL) (rest := rest) hlen rfl (by show 2 * 0 + _ ≤ _; rw [Nat.mul_zero, Nat.zero_add]; exact hW) (hb hby hd) (fun _ _ => ⟨rfl, eT, hc, hs⟩)
  dsimp only [Pt.U, Pt.locs, Pt.cells, Pt.slots] at X' l1 l2 l3 st hQ
  subst l1 l2 l3
  exact (k T' _ Lc v X' rfl hQ).go fun t q => st _ q
theorem own_private (X : Stand p l e R s m args below meth c T locs cells slots) (hx : p.tables.exec = Jvm.exec) (hby : c.code = B) (hZ : Z.Warmed39 s.vm) {own : String} {index : Nat} {y : MethodName} {bytes : ByteArray} {maxL : Nat} {ret : Option FieldType} {rm : Room} {as' : Array Value} {Q : Option Value → Heap → List Loc → Prop} (hown : s.vm.findClass own = some m.cls) (w1 : (Jvm.Cond.methodLink own index y).before a0 Z = true) (w2 : (Jvm.Cond.instanceMethod y).before a0 Z = true) {ni : Nat} (w5 : (Jvm.Cond.instantiable y.cls ni).before a0 Z = true) (w6 : (Jvm.Cond.privateMethod y).before a0 Z = true) (w3 : (Jvm.Cond.code y bytes maxL ret).before a0 Z = true) (w4 : (Jvm.Cond.initialized y.cls).before a0 Z = true) (hy : y.cls ≠ "java/lang/invoke/MethodHandle" ∧ y.cls ≠ "java/lang/invoke/VarHandle") (hM : MetFree l y (head1 [Jvm.Cond.code y bytes maxL ret] rm) (fun a U => a = as' ∧ Z.Warmed39 U.vm ∧ U.heap = h) (fun _ _ _ _ _ => True) (fun _ U o U' => ∃ v L, o = .returned v ∧ Q v U'.heap L ∧ FrameEnd U o U' L rm.cells rm.slots)) (eT : T.heap = h) (hsize : L.size = c.maxLocals) {a : Addr} (E : Exa Z h a y.cls) {argsL : List Value} (has : as' = (.ref a :: argsL).toArray) (hlen : ∀ sig, parseMethodDescriptor y.desc = some sig → argsL.length = sig.parameters.length) {st : List Value} (hst : st = argsL.reverse ++ .ref a :: rest) (hd : decode B pc = .ok (.invokevirtual index, 3)) (hp : pc + 3 = pc') (hf : rm.frames + 1 ≤ R.frames) {W : Nat} (hW : (rest.map fun v => v.category).sum ≤ W) (hl : W + (maxL + 11) + rm.locals ≤ R.locals) (hc : cells + rm.cells ≤ R.cells) (hs : slots + rm.slots ≤ R.slots) (k : ∀ T' h' L' v, Stand p l e R s m args below meth c T' (locs ++ L') (cells + rm.cells) (slots + rm.slots) → T'.heap = h' → Q v h' L' → Gt p.tables e below F (T'.setTop (mkF m pc' L (v.toList ++ rest)))) : Gt p.tables e below F (T.setTop (mkF m pc L st)) := by
  subst hp has hst
  obtain ⟨cq, q1, q2⟩ := E.cell
  obtain ⟨cI, kI, i1, i2, -, i3, -⟩ := Cond.instantiable_spec (mv (s := s) (args := args) hZ w5)
  have hpr := Cond.privateMethod_at (mvP (s := s) hZ w6 (args := #[]))
  have hsel := Jvm.Stand.selects_self_of_private i1 i2 (Bool.or_eq_false_iff.mp i3).1 hpr (mvT (s := s) (args := args) hZ w2) hy
  obtain ⟨v, vm1, ⟨T', L1, k1, n1⟩, -, X', ⟨Lc, hQ, l1, l2, l3⟩, st⟩ := X.privateBack hx (y := y) hown (mvT hZ w1) (mvT hZ w2) hsel hpr (mvT hZ w3) hy (backOf (W := W) hM hZ w3 w4 hf hl) (g := mkF m pc L (argsL.reverse ++ .ref a :: rest)) rfl hsize (Steps.refl _) (a := a) (by rw [eT]; exact q1) q2 (argsL := argsL) (rest := rest) hlen rfl (by show 2 * 0 + _ ≤ _; rw [Nat.mul_zero, Nat.zero_add]; exact hW) (hb hby hd) (fun _ _ => ⟨rfl, eT, hc, hs⟩)
  dsimp only [Pt.U, Pt.locs, Pt.cells, Pt.slots] at X' l1 l2 l3 st hQ
  subst l1 l2 l3
  exact (k T' _ Lc v X' rfl hQ).go fun t q => st.trans q
theorem own_retV (X : Stand p l e R s m args below meth c T locs cells slots) (hx : p.tables.exec = Jvm.exec) (hby : c.code = B) (hlocks : meth.locks = false) {Q : Option Value → Heap → List Loc → Prop} {kc ks : Nat} (hret : meth.sig.returnType = none) (hd : decode B pc = .ok (.return_, 1)) (hc : cells ≤ kc) (hs : slots ≤ ks) (eT : T.heap = h) (hq : Q none h locs) : Gt p.tables e below (fun o U' => ∃ v Lc, o = .returned v ∧ Q v U'.heap Lc ∧ FrameEnd s o U' Lc kc ks) (T.setTop (mkF m pc L [])) := by
  subst eT
  obtain ⟨fs, hr, hrun, hended, hW, hsame⟩ := X.leave (v := none) (fun _ => rfl) hlocks
  exact ⟨_, _, X.returnOut hx hret (hb hby hd) hr, hrun, hended, _, _, rfl, hq, ⟨_, rfl⟩, hW, hsame.mono hc hs⟩
theorem own_retI (X : Stand p l e R s m args below meth c T locs cells slots) (hx : p.tables.exec = Jvm.exec) (hby : c.code = B) (hlocks : meth.locks = false) {Q : Option Value → Heap → List Loc → Prop} {kc ks : Nat} (hret : meth.sig.returnType = some .int) {z : Int32} (hd : decode B pc = .ok (.ireturn, 1)) (hc : cells ≤ kc) (hs : slots ≤ ks) (eT : T.heap = h) (hq : Q (some (.int z)) h locs) : Gt p.tables e below (fun o U' => ∃ v Lc, o = .returned v ∧ Q v U'.heap Lc ∧ FrameEnd s o U' Lc kc ks) (T.setTop (mkF m pc L (.int z :: rest))) := by
  subst eT
  obtain ⟨fs, hr, hrun, hended, hW, hsame⟩ := X.leave (v := (some (.int z))) (fun h => by rw [hret] at h; cases h) hlocks
  exact ⟨_, _, retOut X hx hret rfl (Or.inl ⟨rfl, Or.inl rfl, z, rfl⟩) (hb hby hd) hr, hrun, hended, _, _, rfl, hq, ⟨_, rfl⟩, hW, hsame.mono hc hs⟩
theorem own_retL (X : Stand p l e R s m args below meth c T locs cells slots) (hx : p.tables.exec = Jvm.exec) (hby : c.code = B) (hlocks : meth.locks = false) {Q : Option Value → Heap → List Loc → Prop} {kc ks : Nat} (hret : meth.sig.returnType = some .long) {z : Int64} (hd : decode B pc = .ok (.lreturn, 1)) (hc : cells ≤ kc) (hs : slots ≤ ks) (eT : T.heap = h) (hq : Q (some (.long z)) h locs) : Gt p.tables e below (fun o U' => ∃ v Lc, o = .returned v ∧ Q v U'.heap Lc ∧ FrameEnd s o U' Lc kc ks) (T.setTop (mkF m pc L (.long z :: rest))) := by
  subst eT
  obtain ⟨fs, hr, hrun, hended, hW, hsame⟩ := X.leave (v := (some (.long z))) (fun h => by rw [hret] at h; cases h) hlocks
  exact ⟨_, _, retOut X hx hret rfl (Or.inr (Or.inl ⟨rfl, rfl, z, rfl⟩)) (hb hby hd) hr, hrun, hended, _, _, rfl, hq, ⟨_, rfl⟩, hW, hsame.mono hc hs⟩
theorem own_retD (X : Stand p l e R s m args below meth c T locs cells slots) (hx : p.tables.exec = Jvm.exec) (hby : c.code = B) (hlocks : meth.locks = false) {Q : Option Value → Heap → List Loc → Prop} {kc ks : Nat} (hret : meth.sig.returnType = some .double) {z : UInt64} (hd : decode B pc = .ok (.dreturn, 1)) (hc : cells ≤ kc) (hs : slots ≤ ks) (eT : T.heap = h) (hq : Q (some (.double z)) h locs) : Gt p.tables e below (fun o U' => ∃ v Lc, o = .returned v ∧ Q v U'.heap Lc ∧ FrameEnd s o U' Lc kc ks) (T.setTop (mkF m pc L (.double z :: rest))) := by
  subst eT
  obtain ⟨fs, hr, hrun, hended, hW, hsame⟩ := X.leave (v := (some (.double z))) (fun h => by rw [hret] at h; cases h) hlocks
  exact ⟨_, _, retOut X hx hret rfl (Or.inr (Or.inr (Or.inl ⟨rfl, rfl, z, rfl⟩))) (hb hby hd) hr, hrun, hended, _, _, rfl, hq, ⟨_, rfl⟩, hW, hsame.mono hc hs⟩
theorem own_retZ (X : Stand p l e R s m args below meth c T locs cells slots) (hx : p.tables.exec = Jvm.exec) (hby : c.code = B) (hlocks : meth.locks = false) {Q : Option Value → Heap → List Loc → Prop} {kc ks : Nat} (hret : meth.sig.returnType = some .boolean) {z : Int32} (hz : z = 0 ∨ z = 1) (hd : decode B pc = .ok (.ireturn, 1)) (hc : cells ≤ kc) (hs : slots ≤ ks) (eT : T.heap = h) (hq : Q (some (.int z)) h locs) : Gt p.tables e below (fun o U' => ∃ v Lc, o = .returned v ∧ Q v U'.heap Lc ∧ FrameEnd s o U' Lc kc ks) (T.setTop (mkF m pc L (.int z :: rest))) := by
  subst eT
  obtain ⟨fs, hr, hrun, hended, hW, hsame⟩ := X.leave (v := (some (.int z))) (fun h => by rw [hret] at h; cases h) hlocks
  exact ⟨_, _, retOut X hx hret (by rcases hz with rfl | rfl <;> rfl) (Or.inl ⟨rfl, Or.inr (Or.inl rfl), z, rfl⟩) (hb hby hd) hr, hrun, hended, _, _, rfl, hq, ⟨_, rfl⟩, hW, hsame.mono hc hs⟩
theorem own_retA (X : Stand p l e R s m args below meth c T locs cells slots) (hx : p.tables.exec = Jvm.exec) (hby : c.code = B) (hlocks : meth.locks = false) {Q : Option Value → Heap → List Loc → Prop} {kc ks : Nat} {t : FieldType} (hret : meth.sig.returnType = some t) (ht : t.isReference = true) {z : Value} (hz : z.isRef = true) (hd : decode B pc = .ok (.areturn, 1)) (hc : cells ≤ kc) (hs : slots ≤ ks) (eT : T.heap = h) (hq : Q (some z) h locs) : Gt p.tables e below (fun o U' => ∃ v Lc, o = .returned v ∧ Q v U'.heap Lc ∧ FrameEnd s o U' Lc kc ks) (T.setTop (mkF m pc L (z :: rest))) := by
  subst eT
  obtain ⟨fs, hr, hrun, hended, hW, hsame⟩ := X.leave (v := (some z)) (fun h => by rw [hret] at h; cases h) hlocks
  exact ⟨_, _, retOut X hx hret (by rcases ref_cases hz with rfl | ⟨a, rfl⟩ <;> cases t <;> simp_all [narrow, FieldType.isReference]) (Or.inr (Or.inr (Or.inr (Or.inr ⟨rfl, ht, hz⟩)))) (hb hby hd) hr, hrun, hended, _, _, rfl, hq, ⟨_, rfl⟩, hW, hsame.mono hc hs⟩
end OwnG
section OwnA
variable {p : Program} {l : Launch} {e : Env} {R : Room} {s : State} {m : MethodId} {args : Array Value} {below : List Frame} {meth : Method} {c : Code} {T : State} {locs : List Loc} {cells slots : Nat} {Z : State} {a0 : Array Value} {h h' : Heap} {B : ByteArray} {pc pc' : Nat} {L L' : Array Slot} {rest : List Value} {F : Outcome → State → Prop} {a b : Addr} {ty : FieldType} {vs : List Value} {P : ClassId → Prop} {sl : Nat} {v : Value} {ws : List Addr}
def tr (_ : ClassId) : Prop := True
/-- an array at a of kind ty whose components are the list vs, of a class with P -/
def Ary (P : ClassId → Prop) (Z : State) (h : Heap) (a : Addr) (ty : FieldType) (vs : List Value) : Prop := ∃ c : Cell, Arr Z h a c ty ∧ P c.cls ∧ c.slots.toList = vs ∧ vs.length < 2 ^ 31
theorem Ary.lt (V : Ary P Z h a ty vs) : a < h.size := by obtain ⟨c, A, -⟩ := V; exact A.lt
theorem Ary.ext (V : Ary P Z h a ty vs) (E : Ext h h') : Ary P Z h' a ty vs := by obtain ⟨c, A, r⟩ := V; exact ⟨c, A.ext E, r⟩
theorem Ary.other (V : Ary P Z h b ty vs) (W : Wr h h' a sl v) (q : b ≠ a) : Ary P Z h' b ty vs := by obtain ⟨c, A, r⟩ := V; exact ⟨c, A.other W q, r⟩
theorem Ary.keep (V : Ary P Z h a ty vs) (K : Keep h h' ws) (q : a ∉ ws) : Ary P Z h' a ty vs := by obtain ⟨c, A, r⟩ := V; exact ⟨c, ⟨K.2.1 a c A.1 q, A.2⟩, r⟩
theorem Ary.set (V : Ary P Z h a ty vs) (W : Wr h h' a sl v) : Ary P Z h' a ty (vs.set sl v) := by
  obtain ⟨c, A, q, r, t⟩ := V
  refine ⟨_, A.same W, q, ?_, by rw [List.length_set]; exact t⟩
  show (c.slots.setIfInBounds sl v).toList = _
  rw [Array.toList_setIfInBounds, r]
theorem Ary.size {cl : Cell} (r : cl.slots.toList = vs) : cl.slots.size = vs.length := by rw [← r]; simp
theorem Ary.inb {cl : Cell} {i : Int32} (r : cl.slots.toList = vs) (hi : ¬ i < 0) (hl : i.toNatClampNeg < vs.length) : ¬ (i < 0 ∨ cl.slots.size ≤ i.toNatClampNeg) := by
  rw [Ary.size r]; intro q; rcases q with q | q
  · exact hi q
  · omega
theorem Ary.at {cl : Cell} {i : Nat} (r : cl.slots.toList = vs) (hg : vs[i]? = some v) : cl.slots[i]? = some v := by
  rw [← hg, ← r]; simp
theorem own_alen (X : Stand p l e R s m args below meth c T locs cells slots) (hx : p.tables.exec = Jvm.exec) (hby : c.code = B) (hZ : Z.Warmed39 s.vm) (eT : T.heap = h) (V : Ary P Z h a ty vs) {z : Int32} (hz : vs.length.toInt32 = z) (hd : decode B pc = .ok (.arraylength, 1)) (hp : pc + 1 = pc') (k : Gt p.tables e below F (T.setTop (mkF m pc' L (.int z :: rest)))) : Gt p.tables e below F (T.setTop (mkF m pc L (.ref a :: rest))) := by
  subst hp hz
  obtain ⟨cl, A, -, r, t⟩ := V
  refine k.go fun t q => X.arraylength hx (by rw [eT]; exact A.1) (State.isArrayOf_alike hZ.alike A.2.1) (g := mkF m pc L (.ref a :: rest)) rfl rfl (hb hby hd) _ ?_
  rw [Ary.size r]; exact q
theorem own_iaload (X : Stand p l e R s m args below meth c T locs cells slots) (hx : p.tables.exec = Jvm.exec) (hby : c.code = B) (hZ : Z.Warmed39 s.vm) (eT : T.heap = h) (V : Ary P Z h a .int vs) {i : Int32} (hi : ¬ i < 0) (hg : vs[i.toNatClampNeg]? = some v) (hd : decode B pc = .ok (.iaload, 1)) (hp : pc + 1 = pc') (k : Gt p.tables e below F (T.setTop (mkF m pc' L (v :: rest)))) : Gt p.tables e below F (T.setTop (mkF m pc L (.int i :: .ref a :: rest))) := by
  subst hp
  obtain ⟨cl, A, -, r, t⟩ := V
  exact k.go fun t q => X.iaload hx (by rw [eT]; exact A.1) (State.isArrayOf_alike hZ.alike A.2.1) A.2.2 (Ary.inb r hi (List.getElem?_eq_some_iff.mp hg).1) (Ary.at r hg) (g := mkF m pc L (.int i :: .ref a :: rest)) rfl rfl (hb hby hd) _ q
theorem own_laload (X : Stand p l e R s m args below meth c T locs cells slots) (hx : p.tables.exec = Jvm.exec) (hby : c.code = B) (hZ : Z.Warmed39 s.vm) (eT : T.heap = h) (V : Ary P Z h a .long vs) {i : Int32} (hi : ¬ i < 0) (hg : vs[i.toNatClampNeg]? = some v) (hd : decode B pc = .ok (.laload, 1)) (hp : pc + 1 = pc') (k : Gt p.tables e below F (T.setTop (mkF m pc' L (v :: rest)))) : Gt p.tables e below F (T.setTop (mkF m pc L (.int i :: .ref a :: rest))) := by
  subst hp
  obtain ⟨cl, A, -, r, t⟩ := V
  exact k.go fun t q => X.laload hx (by rw [eT]; exact A.1) (State.isArrayOf_alike hZ.alike A.2.1) A.2.2 (Ary.inb r hi (List.getElem?_eq_some_iff.mp hg).1) (Ary.at r hg) (g := mkF m pc L (.int i :: .ref a :: rest)) rfl rfl (hb hby hd) _ q
theorem own_daload (X : Stand p l e R s m args below meth c T locs cells slots) (hx : p.tables.exec = Jvm.exec) (hby : c.code = B) (hZ : Z.Warmed39 s.vm) (eT : T.heap = h) (V : Ary P Z h a .double vs) {i : Int32} (hi : ¬ i < 0) (hg : vs[i.toNatClampNeg]? = some v) (hd : decode B pc = .ok (.daload, 1)) (hp : pc + 1 = pc') (k : Gt p.tables e below F (T.setTop (mkF m pc' L (v :: rest)))) : Gt p.tables e below F (T.setTop (mkF m pc L (.int i :: .ref a :: rest))) := by
  subst hp
  obtain ⟨cl, A, -, r, t⟩ := V
  exact k.go fun t q => X.daload hx (by rw [eT]; exact A.1) (State.isArrayOf_alike hZ.alike A.2.1) A.2.2 (Ary.inb r hi (List.getElem?_eq_some_iff.mp hg).1) (Ary.at r hg) (g := mkF m pc L (.int i :: .ref a :: rest)) rfl rfl (hb hby hd) _ q
theorem own_aaload (X : Stand p l e R s m args below meth c T locs cells slots) (hx : p.tables.exec = Jvm.exec) (hby : c.code = B) (hZ : Z.Warmed39 s.vm) (eT : T.heap = h) (V : Ary P Z h a ty vs) (hty : ty.isReference = true) {i : Int32} (hi : ¬ i < 0) (hg : vs[i.toNatClampNeg]? = some v) (hd : decode B pc = .ok (.aaload, 1)) (hp : pc + 1 = pc') (k : Gt p.tables e below F (T.setTop (mkF m pc' L (v :: rest)))) : Gt p.tables e below F (T.setTop (mkF m pc L (.int i :: .ref a :: rest))) := by
  subst hp
  obtain ⟨cl, A, -, r, t⟩ := V
  exact k.go fun t q => X.aaload hx (by rw [eT]; exact A.1) (State.isArrayOf_alike hZ.alike A.2.1) hty A.2.2 (Ary.inb r hi (List.getElem?_eq_some_iff.mp hg).1) (Ary.at r hg) (g := mkF m pc L (.int i :: .ref a :: rest)) rfl rfl (hb hby hd) _ q
theorem own_iastore (X : Stand p l e R s m args below meth c T locs cells slots) (hx : p.tables.exec = Jvm.exec) (hby : c.code = B) (hZ : Z.Warmed39 s.vm) (eT : T.heap = h) (V : Ary P Z h a .int vs) {i x : Int32} {n : Nat} (hi : ¬ i < 0) (hn : i.toNatClampNeg = n) (hl : n < vs.length) (hd : decode B pc = .ok (.iastore, 1)) (hp : pc + 1 = pc') (k : ∀ T' h', Stand p l e R s m args below meth c T' (locs ++ [⟨a, n⟩]) cells slots → T'.heap = h' → Wr h h' a n (.int x) → Gt p.tables e below F (T'.setTop (mkF m pc' L rest))) : Gt p.tables e below F (T.setTop (mkF m pc L (.int x :: .int i :: .ref a :: rest))) := by
  subst hp hn
  obtain ⟨cl, A, -, r, t⟩ := V
  obtain ⟨T', h', X', e', W, st⟩ := stI X hx hZ eT A (Ary.inb r hi hl) (g := mkF m pc L (.int x :: .int i :: .ref a :: rest)) rfl rfl (hb hby hd)
  exact (k T' h' X' e' W).go st
theorem own_lastore (X : Stand p l e R s m args below meth c T locs cells slots) (hx : p.tables.exec = Jvm.exec) (hby : c.code = B) (hZ : Z.Warmed39 s.vm) (eT : T.heap = h) (V : Ary P Z h a .long vs) {i : Int32} {x : Int64} {n : Nat} (hi : ¬ i < 0) (hn : i.toNatClampNeg = n) (hl : n < vs.length) (hd : decode B pc = .ok (.lastore, 1)) (hp : pc + 1 = pc') (k : ∀ T' h', Stand p l e R s m args below meth c T' (locs ++ [⟨a, n⟩]) cells slots → T'.heap = h' → Wr h h' a n (.long x) → Gt p.tables e below F (T'.setTop (mkF m pc' L rest))) : Gt p.tables e below F (T.setTop (mkF m pc L (.long x :: .int i :: .ref a :: rest))) := by
  subst hp hn
  obtain ⟨cl, A, -, r, t⟩ := V
  obtain ⟨T', h', X', e', W, st⟩ := stJ X hx hZ eT A (Ary.inb r hi hl) (g := mkF m pc L (.long x :: .int i :: .ref a :: rest)) rfl rfl (hb hby hd)
  exact (k T' h' X' e' W).go st
theorem own_dastore (X : Stand p l e R s m args below meth c T locs cells slots) (hx : p.tables.exec = Jvm.exec) (hby : c.code = B) (hZ : Z.Warmed39 s.vm) (eT : T.heap = h) (V : Ary P Z h a .double vs) {i : Int32} {x : UInt64} {n : Nat} (hi : ¬ i < 0) (hn : i.toNatClampNeg = n) (hl : n < vs.length) (hd : decode B pc = .ok (.dastore, 1)) (hp : pc + 1 = pc') (k : ∀ T' h', Stand p l e R s m args below meth c T' (locs ++ [⟨a, n⟩]) cells slots → T'.heap = h' → Wr h h' a n (.double x) → Gt p.tables e below F (T'.setTop (mkF m pc' L rest))) : Gt p.tables e below F (T.setTop (mkF m pc L (.double x :: .int i :: .ref a :: rest))) := by
  subst hp hn
  obtain ⟨cl, A, -, r, t⟩ := V
  obtain ⟨T', h', X', e', W, st⟩ := stD X hx hZ eT A (Ary.inb r hi hl) (g := mkF m pc L (.double x :: .int i :: .ref a :: rest)) rfl rfl (hb hby hd)
  exact (k T' h' X' e' W).go st
/-- what lies in it: an array class over C -/
def ovA (Z : State) (ty : FieldType) (C : String) (k : ClassId) : Prop := OvrA Z k ty C
def ovO (Z : State) (C : String) (k : ClassId) : Prop := Ovr Z k C
theorem own_aastoreA (X : Stand p l e R s m args below meth c T locs cells slots) (hx : p.tables.exec = Jvm.exec) (hby : c.code = B) (hZ : Z.Warmed39 s.vm) (eT : T.heap = h) {C : String} (V : Ary (ovA Z ty C) Z h a (.array ty) vs) {i : Int32} {x : Addr} {n : Nat} (E : Exa Z h x C) (hi : ¬ i < 0) (hn : i.toNatClampNeg = n) (hl : n < vs.length) (hd : decode B pc = .ok (.aastore, 1)) (hp : pc + 1 = pc') (k : ∀ T' h', Stand p l e R s m args below meth c T' (locs ++ [⟨a, n⟩]) cells slots → T'.heap = h' → Wr h h' a n (.ref x) → Gt p.tables e below F (T'.setTop (mkF m pc' L rest))) : Gt p.tables e below F (T.setTop (mkF m pc L (.ref x :: .int i :: .ref a :: rest))) := by
  subst hp hn
  obtain ⟨cl, A, O, r, t⟩ := V
  obtain ⟨T', h', X', e', W, st⟩ := stR X hx hZ eT A (Ary.inb r hi hl) rfl (Sto.ofVA A rfl O (Ins.self E)) (g := mkF m pc L (.ref x :: .int i :: .ref a :: rest)) rfl rfl (hb hby hd)
  exact (k T' h' X' e' W).go st
theorem own_aastoreO (X : Stand p l e R s m args below meth c T locs cells slots) (hx : p.tables.exec = Jvm.exec) (hby : c.code = B) (hZ : Z.Warmed39 s.vm) (eT : T.heap = h) {C : String} (V : Ary (ovO Z C) Z h a (.object C) vs) {i : Int32} {x : Addr} {n : Nat} (E : Exa Z h x C) (hi : ¬ i < 0) (hn : i.toNatClampNeg = n) (hl : n < vs.length) (hd : decode B pc = .ok (.aastore, 1)) (hp : pc + 1 = pc') (k : ∀ T' h', Stand p l e R s m args below meth c T' (locs ++ [⟨a, n⟩]) cells slots → T'.heap = h' → Wr h h' a n (.ref x) → Gt p.tables e below F (T'.setTop (mkF m pc' L rest))) : Gt p.tables e below F (T.setTop (mkF m pc L (.ref x :: .int i :: .ref a :: rest))) := by
  subst hp hn
  obtain ⟨cl, A, O, r, t⟩ := V
  obtain ⟨T', h', X', e', W, st⟩ := stR X hx hZ eT A (Ary.inb r hi hl) rfl (Sto.of A O (Ins.self E)) (g := mkF m pc L (.ref x :: .int i :: .ref a :: rest)) rfl rfl (hb hby hd)
  exact (k T' h' X' e' W).go st
theorem own_newP (X : Stand p l e R s m args below meth c T locs cells slots) (hx : p.tables.exec = Jvm.exec) (hby : c.code = B) (hZ : Z.Warmed39 s.vm) {aty : ArrayType} (w : (Jvm.Cond.arrayClass (newarray.typeOf aty)).before a0 Z = true) (eT : T.heap = h) (hd : decode B pc = .ok (.newarray aty, 2)) (hp : pc + 2 = pc') {n : Int32} (hn : ¬ n < 0) {N : Nat} (hN : n.toNatClampNeg = N) {cap : Nat} (hcap : N ≤ cap) (hbb : cap * 8 ≤ 536870912) (hc : cells + 1 ≤ R.cells) (hl : slots + cap ≤ R.slots) {ad : String} (had : "[" ++ (newarray.typeOf aty).toString = ad)
    (k : ∀ T' h' a, Stand p l e R s m args below meth c T' locs (cells + 1) (slots + cap) → T'.heap = h' → Ext h h' → h.size = a → Exa Z h' a ad → Ary tr Z h' a (newarray.typeOf aty) (List.replicate N (defaultValue (newarray.typeOf aty))) → Gt p.tables e below F (T'.setTop (mkF m pc' L (.ref a :: rest)))) : Gt p.tables e below F (T.setTop (mkF m pc L (.int n :: rest))) := by
  subst hp hN
  obtain ⟨T', h', cA, X', e', E', A', Ex, st⟩ := newPE X hx hZ w eT (g := mkF m pc L (.int n :: rest)) rfl (hb hby hd) rfl hn hcap hbb hc hl had
  exact (k T' h' _ X' e' E' rfl Ex ⟨_, A', trivial, by simp [newA], by rw [List.length_replicate]; exact (back32 hn).2⟩).go st
theorem own_newRA (X : Stand p l e R s m args below meth c T locs cells slots) (hx : p.tables.exec = Jvm.exec) (hby : c.code = B) (hZ : Z.Warmed39 s.vm) {own C : String} {index : Nat} (hown : s.vm.findClass own = some m.cls) (hC : (FieldType.array ty).toString = C) (w1 : (Jvm.Cond.classLink own index C).before a0 Z = true) (w2 : (Jvm.Cond.arrayOver (.array ty)).before a0 Z = true) (eT : T.heap = h) (hd : decode B pc = .ok (.anewarray index, 3)) (hp : pc + 3 = pc') {n : Int32} (hn : ¬ n < 0) {N : Nat} (hN : n.toNatClampNeg = N) {cap : Nat} (hcap : N ≤ cap) (hbb : cap * 8 ≤ 536870912) (hc : cells + 1 ≤ R.cells) (hl : slots + cap ≤ R.slots) {ad : String} (had : "[" ++ C = ad)
    (k : ∀ T' h' a, Stand p l e R s m args below meth c T' locs (cells + 1) (slots + cap) → T'.heap = h' → Ext h h' → h.size = a → Exa Z h' a ad → Ary (ovA Z ty C) Z h' a (.array ty) (List.replicate N .null) → Gt p.tables e below F (T'.setTop (mkF m pc' L (.ref a :: rest)))) : Gt p.tables e below F (T.setTop (mkF m pc L (.int n :: rest))) := by
  subst hp hN
  obtain ⟨T', h', cA, X', e', E', A', Ex, O, st⟩ := newRA X hx hZ hown hC w1 w2 eT (g := mkF m pc L (.int n :: rest)) rfl (hb hby hd) rfl hn hcap hbb hc hl had
  exact (k T' h' _ X' e' E' rfl Ex ⟨_, A', O, by simp [newA, defaultValue], by rw [List.length_replicate]; exact (back32 hn).2⟩).go st
theorem own_newRO (X : Stand p l e R s m args below meth c T locs cells slots) (hx : p.tables.exec = Jvm.exec) (hby : c.code = B) (hZ : Z.Warmed39 s.vm) {own C : String} {index : Nat} (hown : s.vm.findClass own = some m.cls) (w1 : (Jvm.Cond.classLink own index C).before a0 Z = true) (w2 : (Jvm.Cond.arrayOver (.object C)).before a0 Z = true) (eT : T.heap = h) (hd : decode B pc = .ok (.anewarray index, 3)) (hp : pc + 3 = pc') {n : Int32} (hn : ¬ n < 0) {N : Nat} (hN : n.toNatClampNeg = N) {cap : Nat} (hcap : N ≤ cap) (hbb : cap * 8 ≤ 536870912) (hc : cells + 1 ≤ R.cells) (hl : slots + cap ≤ R.slots) {ad : String} (had : "[" ++ (FieldType.object C).toString = ad)
    (k : ∀ T' h' a, Stand p l e R s m args below meth c T' locs (cells + 1) (slots + cap) → T'.heap = h' → Ext h h' → h.size = a → Exa Z h' a ad → Ary (ovO Z C) Z h' a (.object C) (List.replicate N .null) → Gt p.tables e below F (T'.setTop (mkF m pc' L (.ref a :: rest)))) : Gt p.tables e below F (T.setTop (mkF m pc L (.int n :: rest))) := by
  subst hp hN
  obtain ⟨T', h', cA, X', e', E', A', Ex, O, st⟩ := newRE X hx hZ hown w1 w2 eT (g := mkF m pc L (.int n :: rest)) rfl (hb hby hd) rfl hn hcap hbb hc hl had
  exact (k T' h' _ X' e' E' rfl Ex ⟨_, A', O, by simp [newA, defaultValue], by rw [List.length_replicate]; exact (back32 hn).2⟩).go st
/-- new T[3][3] of a primitive kind -/
theorem own_grid3 (X : Stand p l e R s m args below meth c T locs cells slots) (hx : p.tables.exec = Jvm.exec) (hby : c.code = B) (hZ : Z.Warmed39 s.vm) {own C ad : String} {index : Nat} (hown : s.vm.findClass own = some m.cls) (hC : (FieldType.array ty).toString = C) (had : "[" ++ C = ad)
    (w1 : (Jvm.Cond.classLink own index ad).before a0 Z = true) (w2 : (Jvm.Cond.arrayOver (.array ty)).before a0 Z = true) (w3 : (Jvm.Cond.arrayClass ty).before a0 Z = true) (eT : T.heap = h) (hd : decode B pc = .ok (.multianewarray index 2, 4)) (hp : pc + 4 = pc') (hdf : fits ty (defaultValue ty) = true) (hdd : (defaultValue ty).isDefault = true) (hc : cells + 4 ≤ R.cells) (hl : slots + 12 ≤ R.slots)
    (k : ∀ T' h' a b1 b2 b3, Stand p l e R s m args below meth c T' locs (cells + 4) (slots + 12) → T'.heap = h' → Ext h h' → h.size = a → a < b1 → b1 < b2 → b2 < b3 → Exa Z h' a ad → Ary (ovA Z ty C) Z h' a (.array ty) [.ref b1, .ref b2, .ref b3] → Exa Z h' b1 C → Exa Z h' b2 C → Exa Z h' b3 C → Ary tr Z h' b1 ty [defaultValue ty, defaultValue ty, defaultValue ty] → Ary tr Z h' b2 ty [defaultValue ty, defaultValue ty, defaultValue ty] → Ary tr Z h' b3 ty [defaultValue ty, defaultValue ty, defaultValue ty] → Gt p.tables e below F (T'.setTop (mkF m pc' L (.ref a :: rest)))) : Gt p.tables e below F (T.setTop (mkF m pc L (.int 3 :: .int 3 :: rest))) := by
  subst hp
  obtain ⟨T', h', cA, comp, X', e', E', ⟨cl, A1, A2, A3, A4, A5, A6⟩, O, Ex, I, st⟩ := gridM X hx hZ hown hC had w1 w2 w3 eT (g := mkF m pc L (.int 3 :: .int 3 :: rest)) rfl (hb hby hd) (n := 3) (k := 3) rfl (by decide) (by decide) (N := 3) (by decide) (xs := [h.size + 1, h.size + 2, h.size + 3]) rfl (cap := 3) (by decide) (by decide) (by decide) hdf hdd hc hl
  have i1 := I 0 _ rfl; have i2 := I 1 _ rfl; have i3 := I 2 _ rfl
  have f : ∀ x, Arr Z h' x (newA comp ty 3) ty → Ary tr Z h' x ty [defaultValue ty, defaultValue ty, defaultValue ty] := fun x q => ⟨_, q, trivial, by simp [newA], by show 3 < 2 ^ 31; decide⟩
  refine (k T' h' _ _ _ _ X' e' E' rfl (Nat.lt_succ_self _) (Nat.lt_succ_self _) (Nat.lt_succ_self _) Ex ⟨cl, A1, A2 ▸ O, ?_, by show 3 < 2 ^ 31; decide⟩ i1.2 i2.2 i3.2 (f _ i1.1) (f _ i2.1) (f _ i3.1)).go st
  have sz : cl.slots.size = 3 := A3
  refine List.ext_getElem? fun i => ?_
  by_cases hi : i < 3
  · have q := A5 i (by omega)
    rw [Array.getElem?_toList, q]
    match i, hi with
    | 0, _ => rfl
    | 1, _ => rfl
    | 2, _ => rfl
  · rw [List.getElem?_eq_none (by simp; omega), List.getElem?_eq_none (by simp; omega)]
end OwnA
section OwnL
theorem own_lget {α : Type} {L : List α} {d : α} {i : Nat} {f : α → Value} (h : i < L.length) : (L.map f)[i]? = some (f (L.getD i d)) := by
  rw [List.getElem?_map, List.getD_eq_getElem?_getD, List.getElem?_eq_getElem h]; rfl
theorem own_rg0 {i : Int32} {m : Int} (h : 0 ≤ i.toInt ∧ i.toInt < m) : ¬ i < 0 := by
  rw [Int32.lt_iff_toInt_lt]; have : (0 : Int32).toInt = 0 := by decide
  omega
theorem own_rgl {α : Type} {L : List α} {i : Int32} {m : Int} {n : Nat} (h : 0 ≤ i.toInt ∧ i.toInt < m) (hl : L.length = n) (e : m.toNat = n := by rfl) : i.toNatClampNeg < L.length := by
  show i.toInt.toNat < _; omega
end OwnL
section OwnC
variable {x y : UInt64} {i j : Int64} {a b : Int32}
abbrev dlt (x y : UInt64) : Prop := FP.dcmp x y = some .lt
abbrev dgt (x y : UInt64) : Prop := FP.dcmp x y = some .gt
abbrev deq (x y : UInt64) : Prop := FP.dcmp x y = some .eq
abbrev dle (x y : UInt64) : Prop := FP.dcmp x y = some .lt ∨ FP.dcmp x y = some .eq
abbrev dge (x y : UInt64) : Prop := FP.dcmp x y = some .gt ∨ FP.dcmp x y = some .eq
theorem own_dl_lt_p (h : dge x y) : ifCond.holds .lt (cmpValue (FP.dcmp x y) .l) = false := by
  unfold dge at h; revert h; generalize FP.dcmp x y = o; rcases o with _ | (_ | _ | _) <;> decide
theorem own_dl_lt_n (h : ¬ dge x y) : ifCond.holds .lt (cmpValue (FP.dcmp x y) .l) = true := by
  unfold dge at h; revert h; generalize FP.dcmp x y = o; rcases o with _ | (_ | _ | _) <;> decide
theorem own_dl_ge_p (h : dge x y) : ifCond.holds .ge (cmpValue (FP.dcmp x y) .l) = true := by
  unfold dge at h; revert h; generalize FP.dcmp x y = o; rcases o with _ | (_ | _ | _) <;> decide
theorem own_dl_ge_n (h : ¬ dge x y) : ifCond.holds .ge (cmpValue (FP.dcmp x y) .l) = false := by
  unfold dge at h; revert h; generalize FP.dcmp x y = o; rcases o with _ | (_ | _ | _) <;> decide
theorem own_dl_gt_p (h : dgt x y) : ifCond.holds .gt (cmpValue (FP.dcmp x y) .l) = true := by
  unfold dgt at h; revert h; generalize FP.dcmp x y = o; rcases o with _ | (_ | _ | _) <;> decide
theorem own_dl_gt_n (h : ¬ dgt x y) : ifCond.holds .gt (cmpValue (FP.dcmp x y) .l) = false := by
  unfold dgt at h; revert h; generalize FP.dcmp x y = o; rcases o with _ | (_ | _ | _) <;> decide
theorem own_dl_le_p (h : dgt x y) : ifCond.holds .le (cmpValue (FP.dcmp x y) .l) = false := by
  unfold dgt at h; revert h; generalize FP.dcmp x y = o; rcases o with _ | (_ | _ | _) <;> decide
theorem own_dl_le_n (h : ¬ dgt x y) : ifCond.holds .le (cmpValue (FP.dcmp x y) .l) = true := by
  unfold dgt at h; revert h; generalize FP.dcmp x y = o; rcases o with _ | (_ | _ | _) <;> decide
theorem own_dl_eq_p (h : deq x y) : ifCond.holds .eq (cmpValue (FP.dcmp x y) .l) = true := by
  unfold deq at h; revert h; generalize FP.dcmp x y = o; rcases o with _ | (_ | _ | _) <;> decide
theorem own_dl_eq_n (h : ¬ deq x y) : ifCond.holds .eq (cmpValue (FP.dcmp x y) .l) = false := by
  unfold deq at h; revert h; generalize FP.dcmp x y = o; rcases o with _ | (_ | _ | _) <;> decide
theorem own_dl_ne_p (h : deq x y) : ifCond.holds .ne (cmpValue (FP.dcmp x y) .l) = false := by
  unfold deq at h; revert h; generalize FP.dcmp x y = o; rcases o with _ | (_ | _ | _) <;> decide
theorem own_dl_ne_n (h : ¬ deq x y) : ifCond.holds .ne (cmpValue (FP.dcmp x y) .l) = true := by
  unfold deq at h; revert h; generalize FP.dcmp x y = o; rcases o with _ | (_ | _ | _) <;> decide
theorem own_dg_lt_p (h : dlt x y) : ifCond.holds .lt (cmpValue (FP.dcmp x y) .g) = true := by
  unfold dlt at h; revert h; generalize FP.dcmp x y = o; rcases o with _ | (_ | _ | _) <;> decide
theorem own_dg_lt_n (h : ¬ dlt x y) : ifCond.holds .lt (cmpValue (FP.dcmp x y) .g) = false := by
  unfold dlt at h; revert h; generalize FP.dcmp x y = o; rcases o with _ | (_ | _ | _) <;> decide
theorem own_dg_ge_p (h : dlt x y) : ifCond.holds .ge (cmpValue (FP.dcmp x y) .g) = false := by
  unfold dlt at h; revert h; generalize FP.dcmp x y = o; rcases o with _ | (_ | _ | _) <;> decide
theorem own_dg_ge_n (h : ¬ dlt x y) : ifCond.holds .ge (cmpValue (FP.dcmp x y) .g) = true := by
  unfold dlt at h; revert h; generalize FP.dcmp x y = o; rcases o with _ | (_ | _ | _) <;> decide
theorem own_dg_gt_p (h : dle x y) : ifCond.holds .gt (cmpValue (FP.dcmp x y) .g) = false := by
  unfold dle at h; revert h; generalize FP.dcmp x y = o; rcases o with _ | (_ | _ | _) <;> decide
theorem own_dg_gt_n (h : ¬ dle x y) : ifCond.holds .gt (cmpValue (FP.dcmp x y) .g) = true := by
  unfold dle at h; revert h; generalize FP.dcmp x y = o; rcases o with _ | (_ | _ | _) <;> decide
theorem own_dg_le_p (h : dle x y) : ifCond.holds .le (cmpValue (FP.dcmp x y) .g) = true := by
  unfold dle at h; revert h; generalize FP.dcmp x y = o; rcases o with _ | (_ | _ | _) <;> decide
theorem own_dg_le_n (h : ¬ dle x y) : ifCond.holds .le (cmpValue (FP.dcmp x y) .g) = false := by
  unfold dle at h; revert h; generalize FP.dcmp x y = o; rcases o with _ | (_ | _ | _) <;> decide
theorem own_dg_eq_p (h : deq x y) : ifCond.holds .eq (cmpValue (FP.dcmp x y) .g) = true := by
  unfold deq at h; revert h; generalize FP.dcmp x y = o; rcases o with _ | (_ | _ | _) <;> decide
theorem own_dg_eq_n (h : ¬ deq x y) : ifCond.holds .eq (cmpValue (FP.dcmp x y) .g) = false := by
  unfold deq at h; revert h; generalize FP.dcmp x y = o; rcases o with _ | (_ | _ | _) <;> decide
theorem own_dg_ne_p (h : deq x y) : ifCond.holds .ne (cmpValue (FP.dcmp x y) .g) = false := by
  unfold deq at h; revert h; generalize FP.dcmp x y = o; rcases o with _ | (_ | _ | _) <;> decide
theorem own_dg_ne_n (h : ¬ deq x y) : ifCond.holds .ne (cmpValue (FP.dcmp x y) .g) = true := by
  unfold deq at h; revert h; generalize FP.dcmp x y = o; rcases o with _ | (_ | _ | _) <;> decide
theorem own_lc_lt_p (h : i < j) : ifCond.holds .lt (if i > j then 1 else if i = j then 0 else -1 : Int32) = true := by
  simp only [gt_iff_lt, Int64.lt_iff_toInt_lt, ← Int64.toInt_inj] at h ⊢
  rcases Int.lt_trichotomy i.toInt j.toInt with q | q | q
  · rw [if_neg (by omega), if_neg (by omega)]; first | rfl | (exfalso; omega)
  · rw [if_neg (by omega), if_pos q]; first | rfl | (exfalso; omega)
  · rw [if_pos q]; first | rfl | (exfalso; omega)
theorem own_lc_lt_n (h : ¬ i < j) : ifCond.holds .lt (if i > j then 1 else if i = j then 0 else -1 : Int32) = false := by
  simp only [gt_iff_lt, Int64.lt_iff_toInt_lt, ← Int64.toInt_inj] at h ⊢
  rcases Int.lt_trichotomy i.toInt j.toInt with q | q | q
  · rw [if_neg (by omega), if_neg (by omega)]; first | rfl | (exfalso; omega)
  · rw [if_neg (by omega), if_pos q]; first | rfl | (exfalso; omega)
  · rw [if_pos q]; first | rfl | (exfalso; omega)
theorem own_lc_ge_p (h : i < j) : ifCond.holds .ge (if i > j then 1 else if i = j then 0 else -1 : Int32) = false := by
  simp only [gt_iff_lt, Int64.lt_iff_toInt_lt, ← Int64.toInt_inj] at h ⊢
  rcases Int.lt_trichotomy i.toInt j.toInt with q | q | q
  · rw [if_neg (by omega), if_neg (by omega)]; first | rfl | (exfalso; omega)
  · rw [if_neg (by omega), if_pos q]; first | rfl | (exfalso; omega)
  · rw [if_pos q]; first | rfl | (exfalso; omega)
theorem own_lc_ge_n (h : ¬ i < j) : ifCond.holds .ge (if i > j then 1 else if i = j then 0 else -1 : Int32) = true := by
  simp only [gt_iff_lt, Int64.lt_iff_toInt_lt, ← Int64.toInt_inj] at h ⊢
  rcases Int.lt_trichotomy i.toInt j.toInt with q | q | q
  · rw [if_neg (by omega), if_neg (by omega)]; first | rfl | (exfalso; omega)
  · rw [if_neg (by omega), if_pos q]; first | rfl | (exfalso; omega)
  · rw [if_pos q]; first | rfl | (exfalso; omega)
theorem own_lc_gt_p (h : j < i) : ifCond.holds .gt (if i > j then 1 else if i = j then 0 else -1 : Int32) = true := by
  simp only [gt_iff_lt, Int64.lt_iff_toInt_lt, ← Int64.toInt_inj] at h ⊢
  rcases Int.lt_trichotomy i.toInt j.toInt with q | q | q
  · rw [if_neg (by omega), if_neg (by omega)]; first | rfl | (exfalso; omega)
  · rw [if_neg (by omega), if_pos q]; first | rfl | (exfalso; omega)
  · rw [if_pos q]; first | rfl | (exfalso; omega)
theorem own_lc_gt_n (h : ¬ j < i) : ifCond.holds .gt (if i > j then 1 else if i = j then 0 else -1 : Int32) = false := by
  simp only [gt_iff_lt, Int64.lt_iff_toInt_lt, ← Int64.toInt_inj] at h ⊢
  rcases Int.lt_trichotomy i.toInt j.toInt with q | q | q
  · rw [if_neg (by omega), if_neg (by omega)]; first | rfl | (exfalso; omega)
  · rw [if_neg (by omega), if_pos q]; first | rfl | (exfalso; omega)
  · rw [if_pos q]; first | rfl | (exfalso; omega)
theorem own_lc_le_p (h : j < i) : ifCond.holds .le (if i > j then 1 else if i = j then 0 else -1 : Int32) = false := by
  simp only [gt_iff_lt, Int64.lt_iff_toInt_lt, ← Int64.toInt_inj] at h ⊢
  rcases Int.lt_trichotomy i.toInt j.toInt with q | q | q
  · rw [if_neg (by omega), if_neg (by omega)]; first | rfl | (exfalso; omega)
  · rw [if_neg (by omega), if_pos q]; first | rfl | (exfalso; omega)
  · rw [if_pos q]; first | rfl | (exfalso; omega)
theorem own_lc_le_n (h : ¬ j < i) : ifCond.holds .le (if i > j then 1 else if i = j then 0 else -1 : Int32) = true := by
  simp only [gt_iff_lt, Int64.lt_iff_toInt_lt, ← Int64.toInt_inj] at h ⊢
  rcases Int.lt_trichotomy i.toInt j.toInt with q | q | q
  · rw [if_neg (by omega), if_neg (by omega)]; first | rfl | (exfalso; omega)
  · rw [if_neg (by omega), if_pos q]; first | rfl | (exfalso; omega)
  · rw [if_pos q]; first | rfl | (exfalso; omega)
theorem own_lc_eq_p (h : i = j) : ifCond.holds .eq (if i > j then 1 else if i = j then 0 else -1 : Int32) = true := by
  simp only [gt_iff_lt, Int64.lt_iff_toInt_lt, ← Int64.toInt_inj] at h ⊢
  rcases Int.lt_trichotomy i.toInt j.toInt with q | q | q
  · rw [if_neg (by omega), if_neg (by omega)]; first | rfl | (exfalso; omega)
  · rw [if_neg (by omega), if_pos q]; first | rfl | (exfalso; omega)
  · rw [if_pos q]; first | rfl | (exfalso; omega)
theorem own_lc_eq_n (h : ¬ i = j) : ifCond.holds .eq (if i > j then 1 else if i = j then 0 else -1 : Int32) = false := by
  simp only [gt_iff_lt, Int64.lt_iff_toInt_lt, ← Int64.toInt_inj] at h ⊢
  rcases Int.lt_trichotomy i.toInt j.toInt with q | q | q
  · rw [if_neg (by omega), if_neg (by omega)]; first | rfl | (exfalso; omega)
  · rw [if_neg (by omega), if_pos q]; first | rfl | (exfalso; omega)
  · rw [if_pos q]; first | rfl | (exfalso; omega)
theorem own_lc_ne_p (h : i = j) : ifCond.holds .ne (if i > j then 1 else if i = j then 0 else -1 : Int32) = false := by
  simp only [gt_iff_lt, Int64.lt_iff_toInt_lt, ← Int64.toInt_inj] at h ⊢
  rcases Int.lt_trichotomy i.toInt j.toInt with q | q | q
  · rw [if_neg (by omega), if_neg (by omega)]; first | rfl | (exfalso; omega)
  · rw [if_neg (by omega), if_pos q]; first | rfl | (exfalso; omega)
  · rw [if_pos q]; first | rfl | (exfalso; omega)
theorem own_lc_ne_n (h : ¬ i = j) : ifCond.holds .ne (if i > j then 1 else if i = j then 0 else -1 : Int32) = true := by
  simp only [gt_iff_lt, Int64.lt_iff_toInt_lt, ← Int64.toInt_inj] at h ⊢
  rcases Int.lt_trichotomy i.toInt j.toInt with q | q | q
  · rw [if_neg (by omega), if_neg (by omega)]; first | rfl | (exfalso; omega)
  · rw [if_neg (by omega), if_pos q]; first | rfl | (exfalso; omega)
  · rw [if_pos q]; first | rfl | (exfalso; omega)
theorem own_i0_lt_p (h : a < 0) : ifCond.holds .lt a = true := (if0 _ _).trans (tlt h).1
theorem own_i0_lt_n (h : ¬ a < 0) : ifCond.holds .lt a = false := (if0 _ _).trans (flt h).1
theorem own_i0_ge_p (h : a < 0) : ifCond.holds .ge a = false := (if0 _ _).trans (tlt h).2.1
theorem own_i0_ge_n (h : ¬ a < 0) : ifCond.holds .ge a = true := (if0 _ _).trans (flt h).2.1
theorem own_i0_gt_p (h : 0 < a) : ifCond.holds .gt a = true := (if0 _ _).trans (tlt h).2.2.1
theorem own_i0_gt_n (h : ¬ 0 < a) : ifCond.holds .gt a = false := (if0 _ _).trans (flt h).2.2.1
theorem own_i0_le_p (h : 0 < a) : ifCond.holds .le a = false := (if0 _ _).trans (tlt h).2.2.2
theorem own_i0_le_n (h : ¬ 0 < a) : ifCond.holds .le a = true := (if0 _ _).trans (flt h).2.2.2
theorem own_i0_eq_p (h : a = 0) : ifCond.holds .eq a = true := (if0 _ _).trans (teq h).1
theorem own_i0_eq_n (h : ¬ a = 0) : ifCond.holds .eq a = false := (if0 _ _).trans (feq h).1
theorem own_i0_ne_p (h : a = 0) : ifCond.holds .ne a = false := (if0 _ _).trans (teq h).2
theorem own_i0_ne_n (h : ¬ a = 0) : ifCond.holds .ne a = true := (if0 _ _).trans (feq h).2
theorem own_ic_lt_p (h : a < b) : if_icmp.holds .lt a b = true := (tlt h).1
theorem own_ic_lt_n (h : ¬ a < b) : if_icmp.holds .lt a b = false := (flt h).1
theorem own_ic_ge_p (h : a < b) : if_icmp.holds .ge a b = false := (tlt h).2.1
theorem own_ic_ge_n (h : ¬ a < b) : if_icmp.holds .ge a b = true := (flt h).2.1
theorem own_ic_gt_p (h : b < a) : if_icmp.holds .gt a b = true := (tlt h).2.2.1
theorem own_ic_gt_n (h : ¬ b < a) : if_icmp.holds .gt a b = false := (flt h).2.2.1
theorem own_ic_le_p (h : b < a) : if_icmp.holds .le a b = false := (tlt h).2.2.2
theorem own_ic_le_n (h : ¬ b < a) : if_icmp.holds .le a b = true := (flt h).2.2.2
theorem own_ic_eq_p (h : a = b) : if_icmp.holds .eq a b = true := (teq h).1
theorem own_ic_eq_n (h : ¬ a = b) : if_icmp.holds .eq a b = false := (feq h).1
theorem own_ic_ne_p (h : a = b) : if_icmp.holds .ne a b = false := (teq h).2
theorem own_ic_ne_n (h : ¬ a = b) : if_icmp.holds .ne a b = true := (feq h).2
end OwnC
section OwnF
open Jvm.FP.Core (val64 zval zmag b64 one64 DFin DZero good_b64 val64_fits inUnits signed sgn)
/-- the value in units of 2^-1074 -/
abbrev zv (x : UInt64) : Int := zval b64 (val64 x)
def uu : Int := ((one64 : Nat) : Int)
theorem uu_pos : 0 < uu := by have := FP.Core.one64_pos; show (0 : Int) < ((one64 : Nat) : Int); omega
theorem own_add_le {x y V : UInt64} (hx : DFin x) (hy : DFin y) (hV : val64 V ≠ .nan) (h : zv x + zv y ≤ zv V) : zv (FP.dadd x y) ≤ zv V := by
  show zval b64 (val64 (FP.Core.dadd x y)) ≤ _
  rw [FP.Core.val64_dadd]; exact FP.Core.sum_le good_b64 hx hy (val64_fits x) (val64_fits y) (val64_fits V) hV h
theorem own_add_ge {x y V : UInt64} (hx : DFin x) (hy : DFin y) (hV : val64 V ≠ .nan) (h : zv V ≤ zv x + zv y) : zv V ≤ zv (FP.dadd x y) := by
  show _ ≤ zval b64 (val64 (FP.Core.dadd x y))
  rw [FP.Core.val64_dadd]; exact FP.Core.sum_ge good_b64 hx hy (val64_fits x) (val64_fits y) (val64_fits V) hV h
theorem own_neg_fin {y : UInt64} (hy : DFin y) : ∃ s c q, FP.Core.negate (val64 y) = .fin s c q := by
  obtain ⟨s, c, q, h⟩ := hy; exact ⟨!s, c, q, by rw [h]; rfl⟩
theorem own_sub_le {x y V : UInt64} (hx : DFin x) (hy : DFin y) (hV : val64 V ≠ .nan) (h : zv x - zv y ≤ zv V) : zv (FP.dsub x y) ≤ zv V := by
  show zval b64 (val64 (FP.Core.dsub x y)) ≤ _
  rw [FP.Core.val64_dsub]; exact FP.Core.sum_le good_b64 hx (own_neg_fin hy) (val64_fits x) (FP.Core.negate_fits (val64_fits y)) (val64_fits V) hV (by rw [FP.Core.zval_negate]; unfold zv at h; omega)
theorem own_sub_ge {x y V : UInt64} (hx : DFin x) (hy : DFin y) (hV : val64 V ≠ .nan) (h : zv V ≤ zv x - zv y) : zv V ≤ zv (FP.dsub x y) := by
  show _ ≤ zval b64 (val64 (FP.Core.dsub x y))
  rw [FP.Core.val64_dsub]; exact FP.Core.sum_ge good_b64 hx (own_neg_fin hy) (val64_fits x) (FP.Core.negate_fits (val64_fits y)) (val64_fits V) hV (by rw [FP.Core.zval_negate]; unfold zv at h; omega)
theorem own_signed_mul (s t : Bool) (m n : Nat) : signed (s != t) (m * n) = signed s m * signed t n := by
  cases s <;> cases t <;> simp [signed, Int.neg_mul, Int.mul_neg]
theorem own_qm : b64.qmin = -1074 := by decide
theorem own_pow_e0 : ((2 ^ (b64.qmin - 2 * b64.qmin).toNat : Nat) : Int) = uu := by
  show _ = ((one64 : Nat) : Int); rw [← FP.Core.pow_qmin64]; congr 3
theorem own_mul_le {x y V : UInt64} (hx : DFin x) (hy : DFin y) (hV : val64 V ≠ .nan) (h : zv x * zv y ≤ zv V * uu) : zv (FP.dmul x y) ≤ zv V := by
  show zval b64 (val64 (FP.Core.dmul x y)) ≤ _
  obtain ⟨s, c, q, ex⟩ := hx
  obtain ⟨t, d, r, ey⟩ := hy
  have fx := val64_fits x; have fy := val64_fits y
  rw [ex] at fx; rw [ey] at fy
  unfold zv at h
  rw [ex, ey] at h
  rw [FP.Core.val64_dmul, ex, ey]
  obtain ⟨e1, e2, e3⟩ := FP.Core.product_units fx fy
  rw [e1]
  refine FP.Core.zval_round_le good_b64 (val64_fits V) hV (e0 := 2 * b64.qmin) (by rw [own_qm]; decide) e2 ?_
  rw [e3, own_pow_e0, own_signed_mul]; exact h
theorem own_mul_ge {x y V : UInt64} (hx : DFin x) (hy : DFin y) (hV : val64 V ≠ .nan) (h : zv V * uu ≤ zv x * zv y) : zv V ≤ zv (FP.dmul x y) := by
  show _ ≤ zval b64 (val64 (FP.Core.dmul x y))
  obtain ⟨s, c, q, ex⟩ := hx
  obtain ⟨t, d, r, ey⟩ := hy
  have fx := val64_fits x; have fy := val64_fits y
  rw [ex] at fx; rw [ey] at fy
  unfold zv at h
  rw [ex, ey] at h
  rw [FP.Core.val64_dmul, ex, ey]
  obtain ⟨e1, e2, e3⟩ := FP.Core.product_units fx fy
  rw [e1]
  refine FP.Core.zval_round_ge good_b64 (val64_fits V) hV (e0 := 2 * b64.qmin) (by rw [own_qm]; decide) e2 ?_
  rw [e3, own_pow_e0, own_signed_mul]; exact h
/-- a quotient's two sides in whole units -/
theorem own_div_units {c d : Nat} {q r : Int} (hq : -1074 ≤ q) (hr : -1074 ≤ r) (hr2 : r ≤ 971) (v : Nat) :
    ∃ k : Nat, 0 < k ∧ inUnits c (q - r) (-2148) * k = inUnits c q (-1074) * one64 * 2 ^ 1074 ∧ (v * 2 ^ (1074 : Nat) * d) * k = v * inUnits d r (-1074) * 2 ^ 1074 := by
  refine ⟨2 ^ (r + 1074).toNat, Nat.two_pow_pos _, ?_, ?_⟩
  · unfold inUnits one64
    rw [Nat.mul_assoc, ← Nat.pow_add, Nat.mul_assoc, Nat.mul_assoc, ← Nat.pow_add, ← Nat.pow_add, show (q - r - -2148).toNat + (r + 1074).toNat = (q - -1074).toNat + (1074 + 1074) by omega]
  · unfold inUnits
    rw [show (r - -1074).toNat = (r + 1074).toNat by omega]
    generalize 2 ^ (1074 : Nat) = w
    generalize 2 ^ (r + 1074).toNat = u
    simp only [Nat.mul_comm, Nat.mul_left_comm, Nat.mul_assoc]
theorem own_div_mag_le {x y V : UInt64} (hx : DFin x) (hy : DFin y) (hz : ¬ DZero y) (hV : val64 V ≠ .nan) (h : zmag b64 (val64 x) * one64 ≤ zmag b64 (val64 V) * zmag b64 (val64 y)) : zmag b64 (val64 (FP.ddiv x y)) ≤ zmag b64 (val64 V) := by
  show zmag b64 (val64 (FP.Core.ddiv x y)) ≤ _
  obtain ⟨s, c, q, ex⟩ := hx
  obtain ⟨t, d, r, ey⟩ := hy
  have fx := val64_fits x; have fy := val64_fits y
  rw [ex] at fx; rw [ey] at fy
  have hd : d ≠ 0 := fun e => hz ⟨t, r, by rw [ey, e]⟩
  rw [FP.Core.val64_ddiv, ex, ey]
  rw [ex, ey] at h
  show zmag b64 (if d = 0 then _ else FP.Core.roundRatio b64 (s != t) c d (q - r)) ≤ _
  rw [if_neg hd]
  have b1 : -1074 ≤ q := own_qm ▸ fx.2.1
  have b2 : -1074 ≤ r := own_qm ▸ fy.2.1
  have b3 : r ≤ 971 := fy.2.2.1
  refine FP.Core.zmag_roundRatio_le good_b64 (Nat.pos_of_ne_zero hd) (val64_fits V) hV (e0 := -2148) (by rw [own_qm]; decide) (by omega) ?_
  obtain ⟨k, hk, k1, k2⟩ := own_div_units (c := c) (d := d) b1 b2 b3 (zmag b64 (val64 V))
  rw [show (b64.qmin - -2148).toNat = 1074 by rw [own_qm]; decide]
  refine Nat.le_of_mul_le_mul_right ?_ hk
  rw [k1, k2]
  exact Nat.mul_le_mul_right _ (by have := h; simp only [zmag, own_qm] at this; exact this)
theorem own_div_mag_ge {x y V : UInt64} (hx : DFin x) (hy : DFin y) (hz : ¬ DZero y) (h : zmag b64 (val64 V) * zmag b64 (val64 y) ≤ zmag b64 (val64 x) * one64) : zmag b64 (val64 V) ≤ zmag b64 (val64 (FP.ddiv x y)) := by
  show _ ≤ zmag b64 (val64 (FP.Core.ddiv x y))
  obtain ⟨s, c, q, ex⟩ := hx
  obtain ⟨t, d, r, ey⟩ := hy
  have fx := val64_fits x; have fy := val64_fits y
  rw [ex] at fx; rw [ey] at fy
  have hd : d ≠ 0 := fun e => hz ⟨t, r, by rw [ey, e]⟩
  rw [FP.Core.val64_ddiv, ex, ey]
  rw [ex, ey] at h
  show _ ≤ zmag b64 (if d = 0 then _ else FP.Core.roundRatio b64 (s != t) c d (q - r))
  rw [if_neg hd]
  have b1 : -1074 ≤ q := own_qm ▸ fx.2.1
  have b2 : -1074 ≤ r := own_qm ▸ fy.2.1
  have b3 : r ≤ 971 := fy.2.2.1
  refine FP.Core.zmag_roundRatio_ge good_b64 (Nat.pos_of_ne_zero hd) (val64_fits V) (e0 := -2148) (by rw [own_qm]; decide) (by omega) ?_
  obtain ⟨k, hk, k1, k2⟩ := own_div_units (c := c) (d := d) b1 b2 b3 (zmag b64 (val64 V))
  rw [show (b64.qmin - -2148).toNat = 1074 by rw [own_qm]; decide]
  refine Nat.le_of_mul_le_mul_right ?_ hk
  rw [k1, k2]
  exact Nat.mul_le_mul_right _ (by have := h; simp only [zmag, own_qm] at this; exact this)
theorem own_sgn_div {x y : UInt64} (hx : DFin x) (hy : DFin y) (hz : ¬ DZero y) : sgn (val64 (FP.ddiv x y)) = (sgn (val64 x) != sgn (val64 y)) := by
  show sgn (val64 (FP.Core.ddiv x y)) = _
  obtain ⟨s, c, q, ex⟩ := hx
  obtain ⟨t, d, r, ey⟩ := hy
  have hd : d ≠ 0 := fun e => hz ⟨t, r, by rw [ey, e]⟩
  rw [FP.Core.val64_ddiv, ex, ey]
  show sgn (if d = 0 then _ else FP.Core.roundRatio b64 (s != t) c d (q - r)) = _
  rw [if_neg hd, FP.Core.sgn_roundRatio]; rfl
theorem own_notz {y : UInt64} (hy : DFin y) (h : 0 < zv y) : ¬ DZero y := fun q => by have := q.zval; unfold zv at h; omega
theorem own_possg {y : UInt64} (h : 0 < zv y) : sgn (val64 y) = false ∧ ((zmag b64 (val64 y) : Nat) : Int) = zv y := by
  unfold zv zval at *
  cases e : sgn (val64 y) <;> rw [e] at h <;> simp only [signed, if_true, Bool.false_eq_true, if_false] at h ⊢
  · exact ⟨trivial, trivial⟩
  · omega
theorem own_div_le {x y V : UInt64} (hx : DFin x) (hy : DFin y) (h0 : 0 < zv y) (hV : val64 V ≠ .nan) (h : zv x * uu ≤ zv V * zv y) : zv (FP.ddiv x y) ≤ zv V := by
  have hz := own_notz hy h0
  obtain ⟨s1, s2⟩ := own_possg h0
  have sd := own_sgn_div hx hy hz
  have L := own_div_mag_le (V := V) hx hy hz hV
  have G := own_div_mag_ge (V := V) hx hy hz
  rw [← s2] at h
  have hy0 : 0 < zmag b64 (val64 y) := by omega
  unfold zv zval at h ⊢
  rw [sd, s1]
  have u0 := FP.Core.one64_pos
  have e : uu = ((one64 : Nat) : Int) := rfl
  rw [e] at h
  generalize zmag b64 (val64 y) = my at *
  generalize zmag b64 (val64 x) = mx at *
  generalize zmag b64 (val64 V) = mv at *
  generalize zmag b64 (val64 (FP.ddiv x y)) = md at *
  generalize one64 = u at *
  have p1 : ((mx : Nat) : Int) * ((u : Nat) : Int) = ((mx * u : Nat) : Int) := (Int.natCast_mul ..).symm
  have p2 : ((mv : Nat) : Int) * ((my : Nat) : Int) = ((mv * my : Nat) : Int) := (Int.natCast_mul ..).symm
  have z1 : mv * my = 0 → mv = 0 := fun q => by rcases Nat.mul_eq_zero.mp q with q | q <;> omega
  generalize sgn (val64 x) = sx at h ⊢
  generalize sgn (val64 V) = sV at h ⊢
  cases sx <;> cases sV <;> simp only [signed, if_true, Bool.false_eq_true, if_false, Int.neg_mul, p1, p2, bne_self_eq_false, Bool.bne_false] at h ⊢
  · have := L (by omega); omega
  · have := L (by omega); have := z1 (by omega); omega
  · omega
  · have := G (by omega); omega
theorem own_div_ge {x y V : UInt64} (hx : DFin x) (hy : DFin y) (h0 : 0 < zv y) (hV : val64 V ≠ .nan) (h : zv V * zv y ≤ zv x * uu) : zv V ≤ zv (FP.ddiv x y) := by
  have hz := own_notz hy h0
  obtain ⟨s1, s2⟩ := own_possg h0
  have sd := own_sgn_div hx hy hz
  have L := own_div_mag_le (V := V) hx hy hz hV
  have G := own_div_mag_ge (V := V) hx hy hz
  rw [← s2] at h
  have hy0 : 0 < zmag b64 (val64 y) := by omega
  unfold zv zval at h ⊢
  rw [sd, s1]
  have u0 := FP.Core.one64_pos
  have e : uu = ((one64 : Nat) : Int) := rfl
  rw [e] at h
  generalize zmag b64 (val64 y) = my at *
  generalize zmag b64 (val64 x) = mx at *
  generalize zmag b64 (val64 V) = mv at *
  generalize zmag b64 (val64 (FP.ddiv x y)) = md at *
  generalize one64 = u at *
  have p1 : ((mx : Nat) : Int) * ((u : Nat) : Int) = ((mx * u : Nat) : Int) := (Int.natCast_mul ..).symm
  have p2 : ((mv : Nat) : Int) * ((my : Nat) : Int) = ((mv * my : Nat) : Int) := (Int.natCast_mul ..).symm
  have z1 : mv * my = 0 → mv = 0 := fun q => by rcases Nat.mul_eq_zero.mp q with q | q <;> omega
  generalize sgn (val64 x) = sx at h ⊢
  generalize sgn (val64 V) = sV at h ⊢
  cases sx <;> cases sV <;> simp only [signed, if_true, Bool.false_eq_true, if_false, Int.neg_mul, p1, p2, bne_self_eq_false, Bool.bne_false] at h ⊢
  · have := G (by omega); omega
  · omega
  · have := L (by omega); have := z1 (by omega); omega
  · have := L (by omega); omega
theorem own_bits_of_zv {x : UInt64} (hn : val64 x ≠ .nan) {V : UInt64} (hV : DFin V) (h : zv x = zv V) : DFin x := by
  have q := hV.zval_lt
  cases e : val64 x with
  | nan => exact absurd e hn
  | fin s c r => exact ⟨s, c, r, e⟩
  | inf s =>
    exfalso
    have a1 : (zv x).natAbs = zmag b64 (val64 x) := by unfold zv zval; cases sgn (val64 x) <;> simp [signed]
    have a2 : (zv V).natAbs = zmag b64 (val64 V) := by unfold zv zval; cases sgn (val64 V) <;> simp [signed]
    rw [h, a2, e] at a1
    rw [a1] at q
    exact Nat.lt_irrefl _ q
/-- every n / 2^k of at most 53 digits is a double -/
theorem own_rep (n : Int) (k : Nat) (h1 : n.natAbs < 9007199254740992) (hk : k ≤ 1074) : ∃ V : UInt64, DFin V ∧ zv V * ((2 ^ k : Nat) : Int) = n * uu := by
  obtain ⟨c', q', e1, e2⟩ := FP.Core.round_exact good_b64 (decide (n < 0)) (c := n.natAbs) (q := -(k : Int)) (by exact h1) (by rw [own_qm]; omega) (by have h971 : b64.qmax = 971 := (by decide); omega)
  have f := FP.Core.round_fits good_b64 (.fin (decide (n < 0)) n.natAbs (-(k : Int)))
  refine ⟨FP.Core.of64 (FP.Core.round b64 (.fin (decide (n < 0)) n.natAbs (-(k : Int)))), ⟨decide (n < 0), c', q', by rw [FP.Core.val64_of64 f, e1]⟩, ?_⟩
  unfold zv
  rw [FP.Core.val64_of64 f, e1]
  show signed (decide (n < 0)) (inUnits c' q' b64.qmin) * _ = _
  rw [e2]
  unfold inUnits
  rw [FP.Core.signed_mul, Int.mul_assoc, ← Int.natCast_mul, ← Nat.pow_add, show (-(k : Int) - b64.qmin).toNat + k = 1074 by rw [own_qm]; omega]
  have s0 : signed (decide (n < 0)) n.natAbs = n := by
    unfold signed
    by_cases q : n < 0 <;> simp [q] <;> omega
  rw [s0]; rfl
/-- x is the number n / 2^k -/
def Dy (x : UInt64) (n : Int) (k : Nat) : Prop := DFin x ∧ zv x * ((2 ^ k : Nat) : Int) = n * uu
theorem Dy.fin {x : UInt64} {n : Int} {k : Nat} (D : Dy x n k) : DFin x := D.1
theorem Dy.nn {x : UInt64} {n : Int} {k : Nat} (D : Dy x n k) : NoNaN64 x := Fl.val64_no.mpr D.1.ne_nan
theorem own_pk (k : Nat) : 0 < ((2 ^ k : Nat) : Int) := by have := Nat.two_pow_pos k; omega
theorem own_mid {a b c d : Int} {k : Nat} (h1 : a * ((2 ^ k : Nat) : Int) = c) (h2 : b * ((2 ^ k : Nat) : Int) = d) : (a ≤ b ↔ c ≤ d) ∧ (a < b ↔ c < d) ∧ (a = b ↔ c = d) := by
  have p := own_pk k
  subst h1 h2
  generalize ((2 ^ k : Nat) : Int) = w at *
  exact ⟨(Int.mul_le_mul_right p).symm, (Int.mul_lt_mul_right p).symm, ⟨fun q => by rw [q], fun q => Int.eq_of_mul_eq_mul_right (by omega) q⟩⟩
theorem Dy.cmp {x y : UInt64} {n m : Int} {k : Nat} (A : Dy x n k) (B : Dy y m k) : FP.dcmp x y = some (compare n m) := by
  show FP.Core.dcmp x y = _
  rw [FP.Core.dcmp_zval A.1.ne_nan B.1.ne_nan]
  congr 1
  obtain ⟨-, q2, q3⟩ := own_mid A.2 B.2
  have u := uu_pos
  refine FP.Core.compare_congr (q2.trans ⟨fun q => ?_, fun q => Int.mul_lt_mul_of_pos_right q u⟩) (q3.trans ⟨fun q => Int.eq_of_mul_eq_mul_right (by omega) q, fun q => by rw [q]⟩)
  exact Int.lt_of_mul_lt_mul_right q (Int.le_of_lt u)
theorem Dy.lt {x y : UInt64} {n m : Int} {k : Nat} (A : Dy x n k) (B : Dy y m k) : FP.dcmp x y = some .lt ↔ n < m := by
  rw [A.cmp B, Option.some.injEq, FP.Core.compare_lt_iff]
theorem Dy.gt {x y : UInt64} {n m : Int} {k : Nat} (A : Dy x n k) (B : Dy y m k) : FP.dcmp x y = some .gt ↔ m < n := by
  rw [A.cmp B, Option.some.injEq, FP.Core.compare_gt_iff]
theorem Dy.eq {x y : UInt64} {n m : Int} {k : Nat} (A : Dy x n k) (B : Dy y m k) : FP.dcmp x y = some .eq ↔ n = m := by
  rw [A.cmp B, Option.some.injEq, FP.Core.compare_eq_iff]
theorem Dy.of_zv {x V : UInt64} {n : Int} {k : Nat} (hn : val64 x ≠ .nan) (hV : DFin V) (e : zv V * ((2 ^ k : Nat) : Int) = n * uu) (h1 : zv x ≤ zv V) (h2 : zv V ≤ zv x) : Dy x n k := by
  have q : zv x = zv V := by omega
  exact ⟨own_bits_of_zv hn hV q, by rw [q]; exact e⟩
theorem own_nn_add {x y : UInt64} (hx : DFin x) (hy : DFin y) : val64 (FP.dadd x y) ≠ .nan := Fl.val64_no.mp (Fl.noNaN64_no.mpr (FP.Core.dadd_out hx.notNaN hy))
theorem own_nn_sub {x y : UInt64} (hx : DFin x) (hy : DFin y) : val64 (FP.dsub x y) ≠ .nan := Fl.val64_no.mp (Fl.noNaN64_no.mpr (FP.Core.dsub_out hx.notNaN hy))
theorem own_nn_mul {x y : UInt64} (hx : DFin x) (hy : DFin y) : val64 (FP.dmul x y) ≠ .nan := Fl.val64_no.mp (Fl.noNaN64_no.mpr (FP.Core.dmul_out hx hy))
theorem own_nn_div {x y : UInt64} (hx : DFin x) (hy : DFin y) (hz : ¬ DZero y) : val64 (FP.ddiv x y) ≠ .nan := Fl.val64_no.mp (Fl.noNaN64_no.mpr (FP.Core.ddiv_out hx.notNaN hy hz))
theorem Dy.add {x y : UInt64} {n m : Int} {k : Nat} (A : Dy x n k) (B : Dy y m k) (hb : (n + m).natAbs < 9007199254740992) (hk : k ≤ 1074) : Dy (FP.dadd x y) (n + m) k := by
  obtain ⟨V, fV, eV⟩ := own_rep (n + m) k hb hk
  have e : (zv x + zv y) * ((2 ^ k : Nat) : Int) = (n + m) * uu := by rw [Int.add_mul, A.2, B.2, Int.add_mul]
  obtain ⟨-, -, q⟩ := own_mid e eV
  have q := q.mpr rfl
  exact Dy.of_zv (own_nn_add A.1 B.1) fV eV (own_add_le A.1 B.1 fV.ne_nan (by omega)) (own_add_ge A.1 B.1 fV.ne_nan (by omega))
theorem Dy.sub {x y : UInt64} {n m : Int} {k : Nat} (A : Dy x n k) (B : Dy y m k) (hb : (n - m).natAbs < 9007199254740992) (hk : k ≤ 1074) : Dy (FP.dsub x y) (n - m) k := by
  obtain ⟨V, fV, eV⟩ := own_rep (n - m) k hb hk
  have e : (zv x - zv y) * ((2 ^ k : Nat) : Int) = (n - m) * uu := by rw [Int.sub_mul, A.2, B.2, Int.sub_mul]
  obtain ⟨-, -, q⟩ := own_mid e eV
  have q := q.mpr rfl
  exact Dy.of_zv (own_nn_sub A.1 B.1) fV eV (own_sub_le A.1 B.1 fV.ne_nan (by omega)) (own_sub_ge A.1 B.1 fV.ne_nan (by omega))
theorem own_alg1 {X Y K J n m u : Int} (a : X * K = n * u) (b : Y * J = m * u) : X * Y * (K * J) = n * m * u * u := by
  calc X * Y * (K * J) = (X * K) * (Y * J) := by ac_rfl
    _ = (n * u) * (m * u) := by rw [a, b]
    _ = n * m * u * u := by ac_rfl
theorem own_alg2 {V K N u : Int} (e : V * K = N * u) : V * u * K = N * u * u := by
  calc V * u * K = V * K * u := by ac_rfl
    _ = N * u * u := by rw [e]
theorem own_alg3 {X Y V K J I n m r u : Int} (a : X * K = n * u) (b : Y * J = m * u) (e : V * I = r * u) : X * u * (K * (J * I)) = n * (J * I) * (u * u) ∧ V * Y * (K * (J * I)) = r * m * K * (u * u) := by
  constructor
  · calc X * u * (K * (J * I)) = (X * K) * u * (J * I) := by ac_rfl
      _ = n * u * u * (J * I) := by rw [a]
      _ = n * (J * I) * (u * u) := by ac_rfl
  · calc V * Y * (K * (J * I)) = (V * I) * (Y * J) * K := by ac_rfl
      _ = (r * u) * (m * u) * K := by rw [e, b]
      _ = r * m * K * (u * u) := by ac_rfl
theorem Dy.mul {x y : UInt64} {n m : Int} {k j : Nat} (A : Dy x n k) (B : Dy y m j) (hb : (n * m).natAbs < 9007199254740992) (hk : k + j ≤ 1074) : Dy (FP.dmul x y) (n * m) (k + j) := by
  obtain ⟨V, fV, eV⟩ := own_rep (n * m) (k + j) hb hk
  have e : (zv x * zv y) * ((2 ^ (k + j) : Nat) : Int) = (n * m) * uu * uu := by
    rw [Nat.pow_add, Int.natCast_mul]; exact own_alg1 A.2 B.2
  have e' : (zv V * uu) * ((2 ^ (k + j) : Nat) : Int) = (n * m) * uu * uu := own_alg2 eV
  obtain ⟨-, -, q⟩ := own_mid e e'
  have q := q.mpr rfl
  exact Dy.of_zv (own_nn_mul A.1 B.1) fV eV (own_mul_le A.1 B.1 fV.ne_nan (by omega)) (own_mul_ge A.1 B.1 fV.ne_nan (by omega))
theorem Dy.pos {y : UInt64} {m : Int} {j : Nat} (B : Dy y m j) (hm : 0 < m) : 0 < zv y := by
  have p := own_pk j
  have b := B.2
  have : 0 < m * uu := Int.mul_pos hm uu_pos
  rw [← b] at this
  exact Int.lt_of_mul_lt_mul_right (by rw [Int.zero_mul]; exact this) (Int.le_of_lt p)
/-- an exact quotient -/
theorem Dy.div {x y : UInt64} {n m r : Int} {k j i : Nat} (A : Dy x n k) (B : Dy y m j) (hm : 0 < m) (hq : n * ((2 ^ (j + i) : Nat) : Int) = r * m * ((2 ^ k : Nat) : Int)) (hb : r.natAbs < 9007199254740992) (hi : i ≤ 1074) : Dy (FP.ddiv x y) r i := by
  obtain ⟨V, fV, eV⟩ := own_rep r i hb hi
  have h0 := B.pos hm
  have e : zv x * uu = zv V * zv y := by
    have pk := own_pk k; have pj := own_pk j; have pi := own_pk i
    rw [Nat.pow_add, Int.natCast_mul] at hq
    obtain ⟨a1, a2⟩ := own_alg3 A.2 B.2 eV
    refine Int.eq_of_mul_eq_mul_right (a := ((2 ^ k : Nat) : Int) * (((2 ^ j : Nat) : Int) * ((2 ^ i : Nat) : Int))) (Int.ne_of_gt (Int.mul_pos pk (Int.mul_pos pj pi))) ?_
    rw [a1, a2, hq]
  exact Dy.of_zv (own_nn_div A.1 B.1 (own_notz B.1 h0)) fV eV (own_div_le A.1 B.1 h0 fV.ne_nan (by omega)) (own_div_ge A.1 B.1 h0 fV.ne_nan (by omega))
theorem Dy.up {x : UInt64} {n : Int} {k : Nat} (A : Dy x n k) (j : Nat) : Dy x (n * ((2 ^ j : Nat) : Int)) (k + j) := by
  refine ⟨A.1, ?_⟩
  rw [Nat.pow_add, Int.natCast_mul, ← Int.mul_assoc, A.2]; exact Int.mul_right_comm _ _ _
theorem Dy.to {x : UInt64} {n n' : Int} {k : Nat} (A : Dy x n k) (e : n = n') : Dy x n' k := e ▸ A
theorem own_dy_int {x : UInt64} {i : Int} (h : FP.Core.DInt i x) : Dy x i 0 := by
  have z := FP.Core.DInt_zval h
  have n := FP.Core.DInt_ne_nan h
  refine ⟨?_, by rw [show ((2 ^ 0 : Nat) : Int) = 1 from rfl, Int.mul_one]; exact z⟩
  unfold FP.Core.DInt at h
  cases e : val64 x with
  | nan => exact absurd e n
  | inf s => rw [e] at h; exact h.elim
  | fin s c q => exact ⟨s, c, q, e⟩
theorem dy_i2d (a : Int32) : Dy (FP.i2d a) a.toInt 0 := own_dy_int (FP.Core.i2d_int a)
theorem dy_l2d {a : Int64} (h1 : -9007199254740992 < a.toInt) (h2 : a.toInt < 9007199254740992) : Dy (FP.l2d a) a.toInt 0 := own_dy_int (FP.Core.l2d_whole ⟨h1, h2⟩)
/-- 0.0 + x is x, bit for bit, for a finite x that isn't -0.0 -/
theorem own_zero_add {x : UInt64} {s : Bool} {c : Nat} {q : Int} (hx : val64 x = .fin s c q) (h0 : c = 0 → s = false) : FP.dadd 0 x = x := by
  show FP.Core.dadd 0 x = x
  have fx := val64_fits x
  rw [hx] at fx
  have hq := fx.2.1
  have key : val64 (FP.Core.dadd 0 x) = .fin s c q := by
    rw [FP.Core.val64_dadd, FP.Core.val64_zero, hx]
    have m : min b64.qmin q = b64.qmin := by omega
    have u : FP.Core.sumUnits false 0 b64.qmin s c q b64.qmin = signed s (inUnits c q b64.qmin) := by
      unfold FP.Core.sumUnits; simp [signed, inUnits]
    show FP.Core.roundRatio b64 (FP.Core.sumSign false s (FP.Core.sumUnits false 0 b64.qmin s c q (min b64.qmin q))) (FP.Core.sumUnits false 0 b64.qmin s c q (min b64.qmin q)).natAbs 1 (min b64.qmin q) = _
    rw [m, u]
    have na : (signed s (inUnits c q b64.qmin)).natAbs = inUnits c q b64.qmin := by unfold signed; cases s <;> simp
    have sg : FP.Core.sumSign false s (signed s (inUnits c q b64.qmin)) = s := by
      have pp := Nat.two_pow_pos (q - b64.qmin).toNat
      unfold FP.Core.sumSign
      by_cases c0 : c = 0
      · subst c0; simp [signed, inUnits, h0 rfl]
      · have : 0 < inUnits c q b64.qmin := Nat.mul_pos (Nat.pos_of_ne_zero c0) pp
        cases s <;> simp [signed] <;> omega
    rw [na, sg]
    refine FP.Core.roundRatio_exact good_b64 (by decide) fx ?_
    rw [show (b64.qmin - q).toNat = 0 by omega, Nat.pow_zero, Nat.mul_one, Nat.mul_one]; rfl
  exact FP.Core.val64_inj (by rw [key]; exact FP.Core.Datum.noConfusion) (key.trans hx.symm)
theorem own_scale3 {X Y n m r : Int} {k j i : Nat} {V : Int} (a : X * ((2 ^ k : Nat) : Int) = n * uu) (b : Y * ((2 ^ j : Nat) : Int) = m * uu) (e : V * ((2 ^ i : Nat) : Int) = r * uu) :
    X * uu * (((2 ^ k : Nat) : Int) * (((2 ^ j : Nat) : Int) * ((2 ^ i : Nat) : Int))) = n * ((2 ^ (j + i) : Nat) : Int) * (uu * uu) ∧ V * Y * (((2 ^ k : Nat) : Int) * (((2 ^ j : Nat) : Int) * ((2 ^ i : Nat) : Int))) = r * m * ((2 ^ k : Nat) : Int) * (uu * uu) := by
  rw [Nat.pow_add, Int.natCast_mul]; exact own_alg3 a b e
theorem Dy.div_le {x y V : UInt64} {n m r : Int} {k j i : Nat} (A : Dy x n k) (B : Dy y m j) (hm : 0 < m) (C : Dy V r i) (h : n * ((2 ^ (j + i) : Nat) : Int) ≤ r * m * ((2 ^ k : Nat) : Int)) : zv (FP.ddiv x y) ≤ zv V := by
  refine own_div_le A.1 B.1 (B.pos hm) C.1.ne_nan ?_
  obtain ⟨e1, e2⟩ := own_scale3 A.2 B.2 C.2
  have p : 0 < ((2 ^ k : Nat) : Int) * (((2 ^ j : Nat) : Int) * ((2 ^ i : Nat) : Int)) := Int.mul_pos (own_pk k) (Int.mul_pos (own_pk j) (own_pk i))
  refine Int.le_of_mul_le_mul_right ?_ p
  rw [e1, e2]
  exact Int.mul_le_mul_of_nonneg_right h (Int.le_of_lt (Int.mul_pos uu_pos uu_pos))
theorem Dy.div_ge {x y V : UInt64} {n m r : Int} {k j i : Nat} (A : Dy x n k) (B : Dy y m j) (hm : 0 < m) (C : Dy V r i) (h : r * m * ((2 ^ k : Nat) : Int) ≤ n * ((2 ^ (j + i) : Nat) : Int)) : zv V ≤ zv (FP.ddiv x y) := by
  refine own_div_ge A.1 B.1 (B.pos hm) C.1.ne_nan ?_
  obtain ⟨e1, e2⟩ := own_scale3 A.2 B.2 C.2
  have p : 0 < ((2 ^ k : Nat) : Int) * (((2 ^ j : Nat) : Int) * ((2 ^ i : Nat) : Int)) := Int.mul_pos (own_pk k) (Int.mul_pos (own_pk j) (own_pk i))
  refine Int.le_of_mul_le_mul_right ?_ p
  rw [e1, e2]
  exact Int.mul_le_mul_of_nonneg_right h (Int.le_of_lt (Int.mul_pos uu_pos uu_pos))
/-- the order of two numbers written over one power of two -/
theorem Dy.zle {x y : UInt64} {n m : Int} {k : Nat} (A : Dy x n k) (B : Dy y m k) : (zv x ≤ zv y ↔ n ≤ m) ∧ (zv x < zv y ↔ n < m) := by
  obtain ⟨q1, q2, -⟩ := own_mid A.2 B.2
  have u := uu_pos
  exact ⟨q1.trans ⟨fun q => Int.le_of_mul_le_mul_right q u, fun q => Int.mul_le_mul_of_nonneg_right q (Int.le_of_lt u)⟩, q2.trans ⟨fun q => Int.lt_of_mul_lt_mul_right q (Int.le_of_lt u), fun q => Int.mul_lt_mul_of_pos_right q u⟩⟩
end OwnF
theorem pn_com_example_cross_town_crosstown_solve_NodeHeapInsertOrLowerPinLaw : plainName "com/example/cross_town/crosstown/solve/NodeHeapInsertOrLowerPinLaw" = true := by first | (simp [plainName, overriddenIn]; done) | decide +kernel
theorem pn_com_example_cross_town_crosstown_solve_NodeHeap : plainName "com/example/cross_town/crosstown/solve/NodeHeap" = true := by first | (simp [plainName, overriddenIn]; done) | decide +kernel
theorem pn_java_util_Arrays : plainName "java/util/Arrays" = true := by first | (simp [plainName, overriddenIn]; done) | decide +kernel
theorem d1_0 : decode prog_33_method_1_code 0 = .ok (.aload_n 0, 1) := by decide +kernel
theorem d1_1 : decode prog_33_method_1_code 1 = .ok (.invokespecial 1, 3) := by decide +kernel
theorem d1_4 : decode prog_33_method_1_code 4 = .ok (.aload_n 0, 1) := by decide +kernel
theorem d1_5 : decode prog_33_method_1_code 5 = .ok (.iload_n 1, 1) := by decide +kernel
theorem d1_6 : decode prog_33_method_1_code 6 = .ok (.newarray .int, 2) := by decide +kernel
theorem d1_8 : decode prog_33_method_1_code 8 = .ok (.putfield 7, 3) := by decide +kernel
theorem d1_11 : decode prog_33_method_1_code 11 = .ok (.aload_n 0, 1) := by decide +kernel
theorem d1_12 : decode prog_33_method_1_code 12 = .ok (.iload_n 1, 1) := by decide +kernel
theorem d1_13 : decode prog_33_method_1_code 13 = .ok (.newarray .int, 2) := by decide +kernel
theorem d1_15 : decode prog_33_method_1_code 15 = .ok (.putfield 13, 3) := by decide +kernel
theorem d1_18 : decode prog_33_method_1_code 18 = .ok (.aload_n 0, 1) := by decide +kernel
theorem d1_19 : decode prog_33_method_1_code 19 = .ok (.iload_n 1, 1) := by decide +kernel
theorem d1_20 : decode prog_33_method_1_code 20 = .ok (.newarray .double, 2) := by decide +kernel
theorem d1_22 : decode prog_33_method_1_code 22 = .ok (.putfield 16, 3) := by decide +kernel
theorem d1_25 : decode prog_33_method_1_code 25 = .ok (.aload_n 0, 1) := by decide +kernel
theorem d1_26 : decode prog_33_method_1_code 26 = .ok (.getfield 13, 3) := by decide +kernel
theorem d1_29 : decode prog_33_method_1_code 29 = .ok (.iconst (-1), 1) := by decide +kernel
theorem d1_30 : decode prog_33_method_1_code 30 = .ok (.invokestatic 20, 3) := by decide +kernel
theorem d1_33 : decode prog_33_method_1_code 33 = .ok (.return_, 1) := by decide +kernel
theorem d3_0 : decode jdk_65_method_103_code 0 = .ok (.iconst 0, 1) := by decide +kernel
theorem d3_1 : decode jdk_65_method_103_code 1 = .ok (.istore_n 2, 1) := by decide +kernel
theorem d3_2 : decode jdk_65_method_103_code 2 = .ok (.aload_n 0, 1) := by decide +kernel
theorem d3_3 : decode jdk_65_method_103_code 3 = .ok (.arraylength, 1) := by decide +kernel
theorem d3_4 : decode jdk_65_method_103_code 4 = .ok (.istore_n 3, 1) := by decide +kernel
theorem d3_5 : decode jdk_65_method_103_code 5 = .ok (.iload_n 2, 1) := by decide +kernel
theorem d3_6 : decode jdk_65_method_103_code 6 = .ok (.iload_n 3, 1) := by decide +kernel
theorem d3_7 : decode jdk_65_method_103_code 7 = .ok (.if_icmp .ge 13, 3) := by decide +kernel
theorem d3_10 : decode jdk_65_method_103_code 10 = .ok (.aload_n 0, 1) := by decide +kernel
theorem d3_11 : decode jdk_65_method_103_code 11 = .ok (.iload_n 2, 1) := by decide +kernel
theorem d3_12 : decode jdk_65_method_103_code 12 = .ok (.iload_n 1, 1) := by decide +kernel
theorem d3_13 : decode jdk_65_method_103_code 13 = .ok (.iastore, 1) := by decide +kernel
theorem d3_14 : decode jdk_65_method_103_code 14 = .ok (.iinc 2 1, 3) := by decide +kernel
theorem d3_17 : decode jdk_65_method_103_code 17 = .ok (.goto (-12), 3) := by decide +kernel
theorem d3_20 : decode jdk_65_method_103_code 20 = .ok (.return_, 1) := by decide +kernel
theorem d4_0 : decode prog_33_method_3_code 0 = .ok (.aload_n 0, 1) := by decide +kernel
theorem d4_1 : decode prog_33_method_3_code 1 = .ok (.getfield 13, 3) := by decide +kernel
theorem d4_4 : decode prog_33_method_3_code 4 = .ok (.iload_n 1, 1) := by decide +kernel
theorem d4_5 : decode prog_33_method_3_code 5 = .ok (.iaload, 1) := by decide +kernel
theorem d4_6 : decode prog_33_method_3_code 6 = .ok (.istore 4, 2) := by decide +kernel
theorem d4_8 : decode prog_33_method_3_code 8 = .ok (.iload 4, 2) := by decide +kernel
theorem d4_10 : decode prog_33_method_3_code 10 = .ok (.iconst (-1), 1) := by decide +kernel
theorem d4_11 : decode prog_33_method_3_code 11 = .ok (.if_icmp .ne 19, 3) := by decide +kernel
theorem d4_14 : decode prog_33_method_3_code 14 = .ok (.aload_n 0, 1) := by decide +kernel
theorem d4_15 : decode prog_33_method_3_code 15 = .ok (.getfield 26, 3) := by decide +kernel
theorem d4_18 : decode prog_33_method_3_code 18 = .ok (.istore 4, 2) := by decide +kernel
theorem d4_20 : decode prog_33_method_3_code 20 = .ok (.aload_n 0, 1) := by decide +kernel
theorem d4_21 : decode prog_33_method_3_code 21 = .ok (.dup, 1) := by decide +kernel
theorem d4_22 : decode prog_33_method_3_code 22 = .ok (.getfield 26, 3) := by decide +kernel
theorem d4_25 : decode prog_33_method_3_code 25 = .ok (.iconst 1, 1) := by decide +kernel
theorem d4_26 : decode prog_33_method_3_code 26 = .ok (.iadd, 1) := by decide +kernel
theorem d4_27 : decode prog_33_method_3_code 27 = .ok (.putfield 26, 3) := by decide +kernel
theorem d4_30 : decode prog_33_method_3_code 30 = .ok (.aload_n 0, 1) := by decide +kernel
theorem d4_31 : decode prog_33_method_3_code 31 = .ok (.getfield 16, 3) := by decide +kernel
theorem d4_34 : decode prog_33_method_3_code 34 = .ok (.iload_n 1, 1) := by decide +kernel
theorem d4_35 : decode prog_33_method_3_code 35 = .ok (.dload_n 2, 1) := by decide +kernel
theorem d4_36 : decode prog_33_method_3_code 36 = .ok (.dastore, 1) := by decide +kernel
theorem d4_37 : decode prog_33_method_3_code 37 = .ok (.aload_n 0, 1) := by decide +kernel
theorem d4_38 : decode prog_33_method_3_code 38 = .ok (.iload 4, 2) := by decide +kernel
theorem d4_40 : decode prog_33_method_3_code 40 = .ok (.iload_n 1, 1) := by decide +kernel
theorem d4_41 : decode prog_33_method_3_code 41 = .ok (.invokevirtual 30, 3) := by decide +kernel
theorem d4_44 : decode prog_33_method_3_code 44 = .ok (.return_, 1) := by decide +kernel
theorem d5_0 : decode prog_33_method_5_code 0 = .ok (.iload_n 1, 1) := by decide +kernel
theorem d5_1 : decode prog_33_method_5_code 1 = .ok (.istore_n 3, 1) := by decide +kernel
theorem d5_2 : decode prog_33_method_5_code 2 = .ok (.iload_n 3, 1) := by decide +kernel
theorem d5_3 : decode prog_33_method_5_code 3 = .ok (.ifCond .le 53, 3) := by decide +kernel
theorem d5_6 : decode prog_33_method_5_code 6 = .ok (.iload_n 3, 1) := by decide +kernel
theorem d5_7 : decode prog_33_method_5_code 7 = .ok (.iconst 1, 1) := by decide +kernel
theorem d5_8 : decode prog_33_method_5_code 8 = .ok (.isub, 1) := by decide +kernel
theorem d5_9 : decode prog_33_method_5_code 9 = .ok (.iconst 2, 1) := by decide +kernel
theorem d5_10 : decode prog_33_method_5_code 10 = .ok (.idiv, 1) := by decide +kernel
theorem d5_11 : decode prog_33_method_5_code 11 = .ok (.istore 4, 2) := by decide +kernel
theorem d5_13 : decode prog_33_method_5_code 13 = .ok (.aload_n 0, 1) := by decide +kernel
theorem d5_14 : decode prog_33_method_5_code 14 = .ok (.getfield 16, 3) := by decide +kernel
theorem d5_17 : decode prog_33_method_5_code 17 = .ok (.aload_n 0, 1) := by decide +kernel
theorem d5_18 : decode prog_33_method_5_code 18 = .ok (.getfield 7, 3) := by decide +kernel
theorem d5_21 : decode prog_33_method_5_code 21 = .ok (.iload 4, 2) := by decide +kernel
theorem d5_23 : decode prog_33_method_5_code 23 = .ok (.iaload, 1) := by decide +kernel
theorem d5_24 : decode prog_33_method_5_code 24 = .ok (.daload, 1) := by decide +kernel
theorem d5_25 : decode prog_33_method_5_code 25 = .ok (.aload_n 0, 1) := by decide +kernel
theorem d5_26 : decode prog_33_method_5_code 26 = .ok (.getfield 16, 3) := by decide +kernel
theorem d5_29 : decode prog_33_method_5_code 29 = .ok (.iload_n 2, 1) := by decide +kernel
theorem d5_30 : decode prog_33_method_5_code 30 = .ok (.daload, 1) := by decide +kernel
theorem d5_31 : decode prog_33_method_5_code 31 = .ok (.dcmp .g, 1) := by decide +kernel
theorem d5_32 : decode prog_33_method_5_code 32 = .ok (.ifCond .gt 6, 3) := by decide +kernel
theorem d5_35 : decode prog_33_method_5_code 35 = .ok (.goto 21, 3) := by decide +kernel
theorem d5_38 : decode prog_33_method_5_code 38 = .ok (.aload_n 0, 1) := by decide +kernel
theorem d5_39 : decode prog_33_method_5_code 39 = .ok (.iload_n 3, 1) := by decide +kernel
theorem d5_40 : decode prog_33_method_5_code 40 = .ok (.aload_n 0, 1) := by decide +kernel
theorem d5_41 : decode prog_33_method_5_code 41 = .ok (.getfield 7, 3) := by decide +kernel
theorem d5_44 : decode prog_33_method_5_code 44 = .ok (.iload 4, 2) := by decide +kernel
theorem d5_46 : decode prog_33_method_5_code 46 = .ok (.iaload, 1) := by decide +kernel
theorem d5_47 : decode prog_33_method_5_code 47 = .ok (.invokevirtual 37, 3) := by decide +kernel
theorem d5_50 : decode prog_33_method_5_code 50 = .ok (.iload 4, 2) := by decide +kernel
theorem d5_52 : decode prog_33_method_5_code 52 = .ok (.istore_n 3, 1) := by decide +kernel
theorem d5_53 : decode prog_33_method_5_code 53 = .ok (.goto (-51), 3) := by decide +kernel
theorem d5_56 : decode prog_33_method_5_code 56 = .ok (.aload_n 0, 1) := by decide +kernel
theorem d5_57 : decode prog_33_method_5_code 57 = .ok (.iload_n 3, 1) := by decide +kernel
theorem d5_58 : decode prog_33_method_5_code 58 = .ok (.iload_n 2, 1) := by decide +kernel
theorem d5_59 : decode prog_33_method_5_code 59 = .ok (.invokevirtual 37, 3) := by decide +kernel
theorem d5_62 : decode prog_33_method_5_code 62 = .ok (.return_, 1) := by decide +kernel
theorem d6_0 : decode prog_33_method_7_code 0 = .ok (.aload_n 0, 1) := by decide +kernel
theorem d6_1 : decode prog_33_method_7_code 1 = .ok (.getfield 7, 3) := by decide +kernel
theorem d6_4 : decode prog_33_method_7_code 4 = .ok (.iload_n 1, 1) := by decide +kernel
theorem d6_5 : decode prog_33_method_7_code 5 = .ok (.iload_n 2, 1) := by decide +kernel
theorem d6_6 : decode prog_33_method_7_code 6 = .ok (.iastore, 1) := by decide +kernel
theorem d6_7 : decode prog_33_method_7_code 7 = .ok (.aload_n 0, 1) := by decide +kernel
theorem d6_8 : decode prog_33_method_7_code 8 = .ok (.getfield 13, 3) := by decide +kernel
theorem d6_11 : decode prog_33_method_7_code 11 = .ok (.iload_n 2, 1) := by decide +kernel
theorem d6_12 : decode prog_33_method_7_code 12 = .ok (.iload_n 1, 1) := by decide +kernel
theorem d6_13 : decode prog_33_method_7_code 13 = .ok (.iastore, 1) := by decide +kernel
theorem d6_14 : decode prog_33_method_7_code 14 = .ok (.return_, 1) := by decide +kernel
theorem d7_0 : decode prog_33_method_4_code 0 = .ok (.aload_n 0, 1) := by decide +kernel
theorem d7_1 : decode prog_33_method_4_code 1 = .ok (.getfield 7, 3) := by decide +kernel
theorem d7_4 : decode prog_33_method_4_code 4 = .ok (.iconst 0, 1) := by decide +kernel
theorem d7_5 : decode prog_33_method_4_code 5 = .ok (.iaload, 1) := by decide +kernel
theorem d7_6 : decode prog_33_method_4_code 6 = .ok (.istore_n 1, 1) := by decide +kernel
theorem d7_7 : decode prog_33_method_4_code 7 = .ok (.aload_n 0, 1) := by decide +kernel
theorem d7_8 : decode prog_33_method_4_code 8 = .ok (.getfield 13, 3) := by decide +kernel
theorem d7_11 : decode prog_33_method_4_code 11 = .ok (.iload_n 1, 1) := by decide +kernel
theorem d7_12 : decode prog_33_method_4_code 12 = .ok (.iconst (-1), 1) := by decide +kernel
theorem d7_13 : decode prog_33_method_4_code 13 = .ok (.iastore, 1) := by decide +kernel
theorem d7_14 : decode prog_33_method_4_code 14 = .ok (.aload_n 0, 1) := by decide +kernel
theorem d7_15 : decode prog_33_method_4_code 15 = .ok (.dup, 1) := by decide +kernel
theorem d7_16 : decode prog_33_method_4_code 16 = .ok (.getfield 26, 3) := by decide +kernel
theorem d7_19 : decode prog_33_method_4_code 19 = .ok (.iconst 1, 1) := by decide +kernel
theorem d7_20 : decode prog_33_method_4_code 20 = .ok (.isub, 1) := by decide +kernel
theorem d7_21 : decode prog_33_method_4_code 21 = .ok (.putfield 26, 3) := by decide +kernel
theorem d7_24 : decode prog_33_method_4_code 24 = .ok (.aload_n 0, 1) := by decide +kernel
theorem d7_25 : decode prog_33_method_4_code 25 = .ok (.getfield 26, 3) := by decide +kernel
theorem d7_28 : decode prog_33_method_4_code 28 = .ok (.ifCond .le 17, 3) := by decide +kernel
theorem d7_31 : decode prog_33_method_4_code 31 = .ok (.aload_n 0, 1) := by decide +kernel
theorem d7_32 : decode prog_33_method_4_code 32 = .ok (.iconst 0, 1) := by decide +kernel
theorem d7_33 : decode prog_33_method_4_code 33 = .ok (.aload_n 0, 1) := by decide +kernel
theorem d7_34 : decode prog_33_method_4_code 34 = .ok (.getfield 7, 3) := by decide +kernel
theorem d7_37 : decode prog_33_method_4_code 37 = .ok (.aload_n 0, 1) := by decide +kernel
theorem d7_38 : decode prog_33_method_4_code 38 = .ok (.getfield 26, 3) := by decide +kernel
theorem d7_41 : decode prog_33_method_4_code 41 = .ok (.iaload, 1) := by decide +kernel
theorem d7_42 : decode prog_33_method_4_code 42 = .ok (.invokevirtual 34, 3) := by decide +kernel
theorem d7_45 : decode prog_33_method_4_code 45 = .ok (.iload_n 1, 1) := by decide +kernel
theorem d7_46 : decode prog_33_method_4_code 46 = .ok (.ireturn, 1) := by decide +kernel
theorem d8_0 : decode prog_33_method_6_code 0 = .ok (.iload_n 1, 1) := by decide +kernel
theorem d8_1 : decode prog_33_method_6_code 1 = .ok (.istore_n 3, 1) := by decide +kernel
theorem d8_2 : decode prog_33_method_6_code 2 = .ok (.iconst 2, 1) := by decide +kernel
theorem d8_3 : decode prog_33_method_6_code 3 = .ok (.iload_n 3, 1) := by decide +kernel
theorem d8_4 : decode prog_33_method_6_code 4 = .ok (.imul, 1) := by decide +kernel
theorem d8_5 : decode prog_33_method_6_code 5 = .ok (.iconst 1, 1) := by decide +kernel
theorem d8_6 : decode prog_33_method_6_code 6 = .ok (.iadd, 1) := by decide +kernel
theorem d8_7 : decode prog_33_method_6_code 7 = .ok (.aload_n 0, 1) := by decide +kernel
theorem d8_8 : decode prog_33_method_6_code 8 = .ok (.getfield 26, 3) := by decide +kernel
theorem d8_11 : decode prog_33_method_6_code 11 = .ok (.if_icmp .ge 97, 3) := by decide +kernel
theorem d8_14 : decode prog_33_method_6_code 14 = .ok (.iconst 2, 1) := by decide +kernel
theorem d8_15 : decode prog_33_method_6_code 15 = .ok (.iload_n 3, 1) := by decide +kernel
theorem d8_16 : decode prog_33_method_6_code 16 = .ok (.imul, 1) := by decide +kernel
theorem d8_17 : decode prog_33_method_6_code 17 = .ok (.iconst 1, 1) := by decide +kernel
theorem d8_18 : decode prog_33_method_6_code 18 = .ok (.iadd, 1) := by decide +kernel
theorem d8_19 : decode prog_33_method_6_code 19 = .ok (.istore 4, 2) := by decide +kernel
theorem d8_21 : decode prog_33_method_6_code 21 = .ok (.iload 4, 2) := by decide +kernel
theorem d8_23 : decode prog_33_method_6_code 23 = .ok (.iconst 1, 1) := by decide +kernel
theorem d8_24 : decode prog_33_method_6_code 24 = .ok (.iadd, 1) := by decide +kernel
theorem d8_25 : decode prog_33_method_6_code 25 = .ok (.aload_n 0, 1) := by decide +kernel
theorem d8_26 : decode prog_33_method_6_code 26 = .ok (.getfield 26, 3) := by decide +kernel
theorem d8_29 : decode prog_33_method_6_code 29 = .ok (.if_icmp .ge 36, 3) := by decide +kernel
theorem d8_32 : decode prog_33_method_6_code 32 = .ok (.aload_n 0, 1) := by decide +kernel
theorem d8_33 : decode prog_33_method_6_code 33 = .ok (.getfield 16, 3) := by decide +kernel
theorem d8_36 : decode prog_33_method_6_code 36 = .ok (.aload_n 0, 1) := by decide +kernel
theorem d8_37 : decode prog_33_method_6_code 37 = .ok (.getfield 7, 3) := by decide +kernel
theorem d8_40 : decode prog_33_method_6_code 40 = .ok (.iload 4, 2) := by decide +kernel
theorem d8_42 : decode prog_33_method_6_code 42 = .ok (.iconst 1, 1) := by decide +kernel
theorem d8_43 : decode prog_33_method_6_code 43 = .ok (.iadd, 1) := by decide +kernel
theorem d8_44 : decode prog_33_method_6_code 44 = .ok (.iaload, 1) := by decide +kernel
theorem d8_45 : decode prog_33_method_6_code 45 = .ok (.daload, 1) := by decide +kernel
theorem d8_46 : decode prog_33_method_6_code 46 = .ok (.aload_n 0, 1) := by decide +kernel
theorem d8_47 : decode prog_33_method_6_code 47 = .ok (.getfield 16, 3) := by decide +kernel
theorem d8_50 : decode prog_33_method_6_code 50 = .ok (.aload_n 0, 1) := by decide +kernel
theorem d8_51 : decode prog_33_method_6_code 51 = .ok (.getfield 7, 3) := by decide +kernel
theorem d8_54 : decode prog_33_method_6_code 54 = .ok (.iload 4, 2) := by decide +kernel
theorem d8_56 : decode prog_33_method_6_code 56 = .ok (.iaload, 1) := by decide +kernel
theorem d8_57 : decode prog_33_method_6_code 57 = .ok (.daload, 1) := by decide +kernel
theorem d8_58 : decode prog_33_method_6_code 58 = .ok (.dcmp .g, 1) := by decide +kernel
theorem d8_59 : decode prog_33_method_6_code 59 = .ok (.ifCond .ge 6, 3) := by decide +kernel
theorem d8_62 : decode prog_33_method_6_code 62 = .ok (.iinc 4 1, 3) := by decide +kernel
theorem d8_65 : decode prog_33_method_6_code 65 = .ok (.aload_n 0, 1) := by decide +kernel
theorem d8_66 : decode prog_33_method_6_code 66 = .ok (.getfield 16, 3) := by decide +kernel
theorem d8_69 : decode prog_33_method_6_code 69 = .ok (.iload_n 2, 1) := by decide +kernel
theorem d8_70 : decode prog_33_method_6_code 70 = .ok (.daload, 1) := by decide +kernel
theorem d8_71 : decode prog_33_method_6_code 71 = .ok (.aload_n 0, 1) := by decide +kernel
theorem d8_72 : decode prog_33_method_6_code 72 = .ok (.getfield 16, 3) := by decide +kernel
theorem d8_75 : decode prog_33_method_6_code 75 = .ok (.aload_n 0, 1) := by decide +kernel
theorem d8_76 : decode prog_33_method_6_code 76 = .ok (.getfield 7, 3) := by decide +kernel
theorem d8_79 : decode prog_33_method_6_code 79 = .ok (.iload 4, 2) := by decide +kernel
theorem d8_81 : decode prog_33_method_6_code 81 = .ok (.iaload, 1) := by decide +kernel
theorem d8_82 : decode prog_33_method_6_code 82 = .ok (.daload, 1) := by decide +kernel
theorem d8_83 : decode prog_33_method_6_code 83 = .ok (.dcmp .g, 1) := by decide +kernel
theorem d8_84 : decode prog_33_method_6_code 84 = .ok (.ifCond .gt 6, 3) := by decide +kernel
theorem d8_87 : decode prog_33_method_6_code 87 = .ok (.goto 21, 3) := by decide +kernel
theorem d8_90 : decode prog_33_method_6_code 90 = .ok (.aload_n 0, 1) := by decide +kernel
theorem d8_91 : decode prog_33_method_6_code 91 = .ok (.iload_n 3, 1) := by decide +kernel
theorem d8_92 : decode prog_33_method_6_code 92 = .ok (.aload_n 0, 1) := by decide +kernel
theorem d8_93 : decode prog_33_method_6_code 93 = .ok (.getfield 7, 3) := by decide +kernel
theorem d8_96 : decode prog_33_method_6_code 96 = .ok (.iload 4, 2) := by decide +kernel
theorem d8_98 : decode prog_33_method_6_code 98 = .ok (.iaload, 1) := by decide +kernel
theorem d8_99 : decode prog_33_method_6_code 99 = .ok (.invokevirtual 37, 3) := by decide +kernel
theorem d8_102 : decode prog_33_method_6_code 102 = .ok (.iload 4, 2) := by decide +kernel
theorem d8_104 : decode prog_33_method_6_code 104 = .ok (.istore_n 3, 1) := by decide +kernel
theorem d8_105 : decode prog_33_method_6_code 105 = .ok (.goto (-103), 3) := by decide +kernel
theorem d8_108 : decode prog_33_method_6_code 108 = .ok (.aload_n 0, 1) := by decide +kernel
theorem d8_109 : decode prog_33_method_6_code 109 = .ok (.iload_n 3, 1) := by decide +kernel
theorem d8_110 : decode prog_33_method_6_code 110 = .ok (.iload_n 2, 1) := by decide +kernel
theorem d8_111 : decode prog_33_method_6_code 111 = .ok (.invokevirtual 37, 3) := by decide +kernel
theorem d8_114 : decode prog_33_method_6_code 114 = .ok (.return_, 1) := by decide +kernel
theorem d9_0 : decode prog_33_method_2_code 0 = .ok (.aload_n 0, 1) := by decide +kernel
theorem d9_1 : decode prog_33_method_2_code 1 = .ok (.getfield 26, 3) := by decide +kernel
theorem d9_4 : decode prog_33_method_2_code 4 = .ok (.ifCond .ne 7, 3) := by decide +kernel
theorem d9_7 : decode prog_33_method_2_code 7 = .ok (.iconst 1, 1) := by decide +kernel
theorem d9_8 : decode prog_33_method_2_code 8 = .ok (.goto 4, 3) := by decide +kernel
theorem d9_11 : decode prog_33_method_2_code 11 = .ok (.iconst 0, 1) := by decide +kernel
theorem d9_12 : decode prog_33_method_2_code 12 = .ok (.ireturn, 1) := by decide +kernel
theorem d10_0 : decode method_2_code 0 = .ok (.iload_n 0, 1) := by decide +kernel
theorem d10_1 : decode method_2_code 1 = .ok (.ifCond .lt 12, 3) := by decide +kernel
theorem d10_4 : decode method_2_code 4 = .ok (.iload_n 0, 1) := by decide +kernel
theorem d10_5 : decode method_2_code 5 = .ok (.iconst 4, 1) := by decide +kernel
theorem d10_6 : decode method_2_code 6 = .ok (.if_icmp .ge 7, 3) := by decide +kernel
theorem d10_9 : decode method_2_code 9 = .ok (.iconst 1, 1) := by decide +kernel
theorem d10_10 : decode method_2_code 10 = .ok (.goto 4, 3) := by decide +kernel
theorem d10_13 : decode method_2_code 13 = .ok (.iconst 0, 1) := by decide +kernel
theorem d10_14 : decode method_2_code 14 = .ok (.ireturn, 1) := by decide +kernel
theorem pd_0 : parseMethodDescriptor "([II)V" = some ⟨[(.array .int), .int], none⟩ := by decide +kernel
theorem pd_1 : parseMethodDescriptor "(II)V" = some ⟨[.int, .int], none⟩ := by decide +kernel
theorem pd_2 : parseMethodDescriptor "(I)V" = some ⟨[.int], none⟩ := by decide +kernel
theorem pd_3 : parseMethodDescriptor "(ID)V" = some ⟨[.int, .double], none⟩ := by decide +kernel
theorem pd_4 : parseMethodDescriptor "()I" = some ⟨[], some .int⟩ := by decide +kernel
theorem pd_5 : parseMethodDescriptor "()Z" = some ⟨[], some .boolean⟩ := by decide +kernel
theorem pd_6 : parseMethodDescriptor "(I)Z" = some ⟨[.int], some .boolean⟩ := by decide +kernel


open Jvm.FP.Core (val64) in
/-- no key is a NaN -/
def NNk (K : List UInt64) : Prop := ∀ i : Nat, val64 (K.getD i 0) ≠ .nan
/-- a node's key and its place -/
def kv (K : List UInt64) (x : Int32) : Int := zv (K.getD x.toNatClampNeg 0)
def pv (P : List Int32) (x : Int32) : Int := (P.getD x.toNatClampNeg 0).toInt
theorem own_getD {α : Type} (L : List α) (i j : Nat) (v d : α) (hi : i < L.length) : (L.set i v).getD j d = if i = j then v else L.getD j d := by
  rw [List.getD_eq_getElem?_getD, List.getD_eq_getElem?_getD, List.getElem?_set]
  by_cases h : i = j
  · rw [if_pos h, if_pos h, if_pos (h ▸ hi)]; rfl
  · rw [if_neg h, if_neg h]
theorem own_same {x y : Int32} {N : Int} (hx : 0 ≤ x.toInt ∧ x.toInt < N) (hy : 0 ≤ y.toInt ∧ y.toInt < N) : x.toNatClampNeg = y.toNatClampNeg ↔ x.toInt = y.toInt := by
  show x.toInt.toNat = y.toInt.toNat ↔ _; omega
theorem own_pvs {P : List Int32} {x y v : Int32} {N : Int} {n : Nat} (hl : P.length = n) (hx : 0 ≤ x.toInt ∧ x.toInt < N) (hy : 0 ≤ y.toInt ∧ y.toInt < N) (e : N.toNat = n := by rfl) : pv (P.set x.toNatClampNeg v) y = if x.toInt = y.toInt then v.toInt else pv P y := by
  unfold pv
  rw [own_getD _ _ _ _ _ (own_rgl hx hl e)]
  by_cases h : x.toInt = y.toInt
  · rw [if_pos ((own_same hx hy).mpr h), if_pos h]
  · rw [if_neg (fun q => h ((own_same hx hy).mp q)), if_neg h]
theorem own_kvs {K : List UInt64} {x y : Int32} {v : UInt64} {N : Int} {n : Nat} (hl : K.length = n) (hx : 0 ≤ x.toInt ∧ x.toInt < N) (hy : 0 ≤ y.toInt ∧ y.toInt < N) (e : N.toNat = n := by rfl) : kv (K.set x.toNatClampNeg v) y = if x.toInt = y.toInt then zv v else kv K y := by
  unfold kv
  rw [own_getD _ _ _ _ _ (own_rgl hx hl e)]
  by_cases h : x.toInt = y.toInt
  · rw [if_pos ((own_same hx hy).mpr h), if_pos h]
  · rw [if_neg (fun q => h ((own_same hx hy).mp q)), if_neg h]
theorem own_nnk {K : List UInt64} {i : Nat} {v : UInt64} (h : NNk K) (hv : FP.Core.val64 v ≠ .nan) (hi : i < K.length) : NNk (K.set i v) := fun j => by
  rw [own_getD _ _ _ _ _ hi]
  by_cases q : i = j
  · rw [if_pos q]; exact hv
  · rw [if_neg q]; exact h j
theorem own_kle {K : List UInt64} (h : NNk K) (x y : Int32) : dle (K.getD x.toNatClampNeg 0) (K.getD y.toNatClampNeg 0) ↔ kv K x ≤ kv K y := by
  unfold dle kv
  have e := FP.Core.dcmp_zval (h x.toNatClampNeg) (h y.toNatClampNeg)
  have e' : FP.dcmp (K.getD x.toNatClampNeg 0) (K.getD y.toNatClampNeg 0) = _ := e
  rw [e', Option.some.injEq, Option.some.injEq, FP.Core.compare_lt_iff, FP.Core.compare_eq_iff]
  unfold zv; omega
theorem own_klt {K : List UInt64} (h : NNk K) (x y : Int32) : dlt (K.getD x.toNatClampNeg 0) (K.getD y.toNatClampNeg 0) ↔ kv K x < kv K y := by
  unfold dlt kv
  have e := FP.Core.dcmp_zval (h x.toNatClampNeg) (h y.toNatClampNeg)
  have e' : FP.dcmp (K.getD x.toNatClampNeg 0) (K.getD y.toNatClampNeg 0) = _ := e
  rw [e', Option.some.injEq, FP.Core.compare_lt_iff]
theorem own_pne {P : List Int32} {x y : Int32} {a b : Int} (h1 : pv P x = a) (h2 : pv P y = b) (h : a ≠ b) : ¬ x.toInt = y.toInt := fun q => h (by
  have e : x = y := Int32.toInt_inj.mp q
  rw [← h1, ← h2, e])

theorem own_pm {P : List Int32} {x i : Int32} {a : Int} (h : pv P x = a) (hi : i.toInt = a) : P.getD x.toNatClampNeg 0 = i := Int32.toInt_inj.mp (h.trans hi.symm)
abbrev Hp1 (a : Int32) (P : List Int32) (K : List UInt64) : Prop := (0 ≤ a.toInt ∧ a.toInt < 4) ∧ pv P a = 0
abbrev Hp2 (a b : Int32) (P : List Int32) (K : List UInt64) : Prop := (0 ≤ a.toInt ∧ a.toInt < 4) ∧ (0 ≤ b.toInt ∧ b.toInt < 4) ∧ pv P a = 0 ∧ pv P b = 1 ∧ kv K a ≤ kv K b
abbrev Hp3 (a b c : Int32) (P : List Int32) (K : List UInt64) : Prop := (0 ≤ a.toInt ∧ a.toInt < 4) ∧ (0 ≤ b.toInt ∧ b.toInt < 4) ∧ (0 ≤ c.toInt ∧ c.toInt < 4) ∧ pv P a = 0 ∧ pv P b = 1 ∧ pv P c = 2 ∧ kv K a ≤ kv K b ∧ kv K a ≤ kv K c
abbrev Hp4 (a b c d : Int32) (P : List Int32) (K : List UInt64) : Prop := (0 ≤ a.toInt ∧ a.toInt < 4) ∧ (0 ≤ b.toInt ∧ b.toInt < 4) ∧ (0 ≤ c.toInt ∧ c.toInt < 4) ∧ (0 ≤ d.toInt ∧ d.toInt < 4) ∧ pv P a = 0 ∧ pv P b = 1 ∧ pv P c = 2 ∧ pv P d = 3 ∧ kv K a ≤ kv K b ∧ kv K a ≤ kv K c ∧ kv K b ≤ kv K d

theorem own_t0 : (0 : Int32).toNatClampNeg = 0 := by decide
theorem own_t1 : (1 : Int32).toNatClampNeg = 1 := by decide
theorem own_t2 : (2 : Int32).toNatClampNeg = 2 := by decide
theorem own_t3 : (3 : Int32).toNatClampNeg = 3 := by decide
theorem own_pv0 {x : Int32} (h : 0 ≤ x.toInt ∧ x.toInt < 4) : pv [(-1 : Int32), (-1 : Int32), (-1 : Int32), (-1 : Int32)] x = -1 := by
  have : x.toInt = 0 ∨ x.toInt = 1 ∨ x.toInt = 2 ∨ x.toInt = 3 := by omega
  unfold pv
  show (([(-1 : Int32), (-1 : Int32), (-1 : Int32), (-1 : Int32)]).getD x.toInt.toNat 0).toInt = -1
  rcases this with e | e | e | e <;> rw [e] <;> rfl
theorem own_nk0 : NNk [(0 : UInt64), (0 : UInt64), (0 : UInt64), (0 : UInt64)] := fun i => by
  have z : FP.Core.val64 0 ≠ .nan := by rw [FP.Core.val64_zero]; exact FP.Core.Datum.noConfusion
  match i with
  | 0 => exact z
  | 1 => exact z
  | 2 => exact z
  | 3 => exact z
  | _ + 4 => exact z
theorem own_maskF : ∀ a b d e : Fin 4, (decide (a = b) || decide (a = d) || decide (a = e) || decide (b = d) || decide (b = e) || decide (d = e) || decide (((((1 : Int32) <<< ((Int32.ofNat a.1) &&& 31)) ||| ((1 : Int32) <<< ((Int32.ofNat b.1) &&& 31))) ||| ((1 : Int32) <<< ((Int32.ofNat d.1) &&& 31))) ||| ((1 : Int32) <<< ((Int32.ofNat e.1) &&& 31)) = (15 : Int32))) = true := by decide +kernel
theorem own_pigF : ∀ a b d e z : Fin 4, (decide (a = b) || decide (a = d) || decide (a = e) || decide (b = d) || decide (b = e) || decide (d = e) || decide (a = z) || decide (b = z) || decide (d = z) || decide (e = z)) = true := by decide +kernel
theorem own_finN {x : Int32} (h : 0 ≤ x.toInt ∧ x.toInt < 4) : ∃ i : Fin 4, x = Int32.ofNat i.1 ∧ (i.1 : Int) = x.toInt := by
  have e0 : (0 : Int32).toInt = 0 := by decide
  have e1 : (1 : Int32).toInt = 1 := by decide
  have e2 : (2 : Int32).toInt = 2 := by decide
  have e3 : (3 : Int32).toInt = 3 := by decide
  have : x.toInt = 0 ∨ x.toInt = 1 ∨ x.toInt = 2 ∨ x.toInt = 3 := by omega
  rcases this with q | q | q | q
  · exact ⟨0, Int32.toInt_inj.mp (q.trans e0.symm), q.symm⟩
  · exact ⟨1, Int32.toInt_inj.mp (q.trans e1.symm), q.symm⟩
  · exact ⟨2, Int32.toInt_inj.mp (q.trans e2.symm), q.symm⟩
  · exact ⟨3, Int32.toInt_inj.mp (q.trans e3.symm), q.symm⟩
/-- four nodes that differ are all the nodes -/
theorem own_pig {a b d e z : Int32} {P : List Int32} {K : List UInt64} (H : Hp4 a b d e P K) (hz : 0 ≤ z.toInt ∧ z.toInt < 4) : a = z ∨ b = z ∨ d = z ∨ e = z := by
  obtain ⟨ra, rb, rd, re, pa, pb, pd, pe, -⟩ := H
  have n1 := own_pne pa pb (by decide); have n2 := own_pne pa pd (by decide); have n3 := own_pne pa pe (by decide); have n4 := own_pne pb pd (by decide); have n5 := own_pne pb pe (by decide); have n6 := own_pne pd pe (by decide)
  obtain ⟨i, ei, fi⟩ := own_finN ra
  obtain ⟨j, ej, fj⟩ := own_finN rb
  obtain ⟨k, ek, fk⟩ := own_finN rd
  obtain ⟨l, el, fl⟩ := own_finN re
  obtain ⟨m, em, fm⟩ := own_finN hz
  have q := own_pigF i j k l m
  simp only [Bool.or_eq_true, decide_eq_true_eq] at q
  rcases q with ((((((((q | q) | q) | q) | q) | q) | q) | q) | q) | q
  · exact absurd (by rw [← fi, ← fj, q]) n1
  · exact absurd (by rw [← fi, ← fk, q]) n2
  · exact absurd (by rw [← fi, ← fl, q]) n3
  · exact absurd (by rw [← fj, ← fk, q]) n4
  · exact absurd (by rw [← fj, ← fl, q]) n5
  · exact absurd (by rw [← fk, ← fl, q]) n6
  · exact Or.inl (by rw [ei, em, q])
  · exact Or.inr (Or.inl (by rw [ej, em, q]))
  · exact Or.inr (Or.inr (Or.inl (by rw [ek, em, q])))
  · exact Or.inr (Or.inr (Or.inr (by rw [el, em, q])))
theorem own_least {a b d e z : Int32} {P : List Int32} {K : List UInt64} (H : Hp4 a b d e P K) (hz : 0 ≤ z.toInt ∧ z.toInt < 4) : kv K a ≤ kv K z := by
  obtain ⟨-, -, -, -, -, -, -, -, o1, o2, o3⟩ := id H
  rcases own_pig H hz with rfl | rfl | rfl | rfl <;> omega
theorem own_mask15 {a b d e : Int32} (ra : 0 ≤ a.toInt ∧ a.toInt < 4) (rb : 0 ≤ b.toInt ∧ b.toInt < 4) (rd : 0 ≤ d.toInt ∧ d.toInt < 4) (re : 0 ≤ e.toInt ∧ e.toInt < 4) (n1 : ¬ a.toInt = b.toInt) (n2 : ¬ a.toInt = d.toInt) (n3 : ¬ a.toInt = e.toInt) (n4 : ¬ b.toInt = d.toInt) (n5 : ¬ b.toInt = e.toInt) (n6 : ¬ d.toInt = e.toInt) :
    ((((1 : Int32) <<< (a &&& 31)) ||| ((1 : Int32) <<< (b &&& 31))) ||| ((1 : Int32) <<< (d &&& 31))) ||| ((1 : Int32) <<< (e &&& 31)) = (15 : Int32) := by
  obtain ⟨i, ei, fi⟩ := own_finN ra
  obtain ⟨j, ej, fj⟩ := own_finN rb
  obtain ⟨k, ek, fk⟩ := own_finN rd
  obtain ⟨l, el, fl⟩ := own_finN re
  have q := own_maskF i j k l
  simp only [Bool.or_eq_true, decide_eq_true_eq] at q
  rw [← ei, ← ej, ← ek, ← el] at q
  rcases q with (((((q | q) | q) | q) | q) | q) | q
  · exact absurd (by rw [← fi, ← fj, q]) n1
  · exact absurd (by rw [← fi, ← fk, q]) n2
  · exact absurd (by rw [← fi, ← fl, q]) n3
  · exact absurd (by rw [← fj, ← fk, q]) n4
  · exact absurd (by rw [← fj, ← fl, q]) n5
  · exact absurd (by rw [← fk, ← fl, q]) n6
  · exact q

/-- the law's own array and the heap's keys -/
def Rel (K D : List UInt64) : Prop := ∀ z : Int32, (0 ≤ z.toInt ∧ z.toInt < 4) → kv K z = zv (D.getD z.toNatClampNeg 0)
theorem own_relset {K D : List UInt64} {v : UInt64} {w : Int32} (R : Rel K D) (rw_ : 0 ≤ w.toInt ∧ w.toInt < 4) (hK : K.length = 4) (hD : D.length = 4) : Rel (K.set w.toNatClampNeg v) (D.set w.toNatClampNeg v) := fun z hz => by
  rw [own_kvs hK rw_ hz, own_getD _ _ _ _ _ (own_rgl rw_ hD)]
  by_cases h : w.toInt = z.toInt
  · rw [if_pos h, if_pos ((own_same rw_ hz).mpr h)]
  · rw [if_neg h, if_neg (fun q => h ((own_same rw_ hz).mp q))]; exact R z hz
theorem own_dg {v0 v1 v2 v3 : UInt64} {p0 p1 p2 p3 z : Int32} (D0 : Dy v0 p0.toInt 0) (D1 : Dy v1 p1.toInt 0) (D2 : Dy v2 p2.toInt 0) (D3 : Dy v3 p3.toInt 0) (hz : 0 ≤ z.toInt ∧ z.toInt < 4) : ∃ e : Int32, Dy ([v0, v1, v2, v3].getD z.toNatClampNeg 0) e.toInt 0 := by
  have : z.toInt = 0 ∨ z.toInt = 1 ∨ z.toInt = 2 ∨ z.toInt = 3 := by omega
  show ∃ e : Int32, Dy ([v0, v1, v2, v3].getD z.toInt.toNat 0) e.toInt 0
  rcases this with e | e | e | e <;> rw [e]
  · exact ⟨p0, D0⟩
  · exact ⟨p1, D1⟩
  · exact ⟨p2, D2⟩
  · exact ⟨p3, D3⟩
theorem own_dnn {v0 v1 v2 v3 : UInt64} (h0 : FP.Core.val64 v0 ≠ .nan) (h1 : FP.Core.val64 v1 ≠ .nan) (h2 : FP.Core.val64 v2 ≠ .nan) (h3 : FP.Core.val64 v3 ≠ .nan) : NNk [v0, v1, v2, v3] := fun i => by
  have z : FP.Core.val64 0 ≠ .nan := by rw [FP.Core.val64_zero]; exact FP.Core.Datum.noConfusion
  match i with
  | 0 => exact h0
  | 1 => exact h1
  | 2 => exact h2
  | 3 => exact h3
  | _ + 4 => exact z
theorem own_dled {K D : List UInt64} {x y : Int32} (R : Rel K D) (n : NNk D) (hx : 0 ≤ x.toInt ∧ x.toInt < 4) (hy : 0 ≤ y.toInt ∧ y.toInt < 4) (h : kv K x ≤ kv K y) : dle (D.getD x.toNatClampNeg 0) (D.getD y.toNatClampNeg 0) := by
  rw [R x hx, R y hy] at h
  exact (own_kle n x y).mpr h
theorem own_m31 (x : Int32) : 0 ≤ (x &&& (2147483647 : Int32)).toInt ∧ (x &&& (2147483647 : Int32)).toInt < 2147483648 := by
  have h := c_mask x 2147483647 31 (by decide) (by decide)
  have e : ((2 ^ 31 : Nat) : Int) = 2147483648 := by decide
  rw [e] at h; omega
theorem own_m3 {x n : Int32} (q : x &&& (3 : Int32) = n) : 0 ≤ n.toInt ∧ n.toInt < 4 := by
  have h := c_mask x 3 2 (by decide) (by decide)
  have e : ((2 ^ 2 : Nat) : Int) = 4 := by decide
  rw [e, q] at h; omega
theorem own_okr {x w : Int32} (h : 0 ≤ x.toInt ∧ x.toInt < 4) (q : (if x < 0 then (0 : Int32) else (if x < (4 : Int32) then (1 : Int32) else (0 : Int32))) = w) : ¬ (w = 0) := by
  have e0 : (0 : Int32).toInt = 0 := by decide
  have e4 : (4 : Int32).toInt = 4 := by decide
  rw [if_neg (by rw [Int32.lt_iff_toInt_lt]; omega), if_pos (by rw [Int32.lt_iff_toInt_lt]; omega)] at q
  rw [← q]; decide

theorem ef3 (m : MethodId) (x0 : Addr) : entryFrame m #[(.ref x0), (.int (-1 : Int32))] 4 = mkF m 0 #[.val (.ref x0), .val (.int (-1 : Int32)), .unset, .unset] [] := by first | (simp [entryFrame, mkF, argsToLocals, Value.category]; done) | rfl
def Q3 (Z : State) (o0 : Addr) (e0 : Int32) (e1 : Int32) (e2 : Int32) (e3 : Int32) (h0 : Heap) (n0 : Nat) (v : Option Value) (h : Heap) (L : List Loc) : Prop := v = none ∧ Fr n0 L ∧ Keep h0 h [o0] ∧ Ary tr Z h o0 .int [(.int (-1 : Int32)), (.int (-1 : Int32)), (.int (-1 : Int32)), (.int (-1 : Int32))]
set_option maxRecDepth 65536 in
set_option maxHeartbeats 40000000 in
theorem rm3 (l : Launch) (Z : State) (a0 : Array Value) (hw : ∀ d ∈ tables_1, d.before a0 Z = true) (ws : List Jvm.Cond) (o0 : Addr) (e0 : Int32) (e1 : Int32) (e2 : Int32) (e3 : Int32) (h0 : Heap) (n0 : Nat) (Z0 : n0 ≤ h0.size) (V_o0 : Ary tr Z h0 o0 .int [(.int e0), (.int e1), (.int e2), (.int e3)]) (g_o0 : n0 ≤ o0) :
    MetFree l (⟨"java/util/Arrays", "fill", "([II)V"⟩ : MethodName) (head1 (Jvm.Cond.code (⟨"java/util/Arrays", "fill", "([II)V"⟩ : MethodName) jdk_65_method_103_code 4 none :: ws) ({ frames := 0, cells := 0, slots := 0, locals := 0 } : Room)) (fun a U => a = #[(.ref o0), (.int (-1 : Int32))] ∧ Z.Warmed39 U.vm ∧ U.heap = h0) (fun _ _ _ _ _ => True) (fun _ U o U' => ∃ v L, o = .returned v ∧ Q3 Z o0 e0 e1 e2 e3 h0 n0 v U'.heap L ∧ FrameEnd U o U' L ({ frames := 0, cells := 0, slots := 0, locals := 0 } : Room).cells ({ frames := 0, cells := 0, slots := 0, locals := 0 } : Room).slots) := by
  refine MetFree.of_bodySF (plainFor_of_name pn_java_util_Arrays) hisR ?_
  intro p e s m args below meth c s₁ Bd hml0 hP hK
  obtain ⟨rfl, hZ, hh⟩ := hP
  have hx := Bd.exec
  have hby := Bd.bytes
  have hml : c.maxLocals = 4 := hml0
  have hown : s.vm.findClass "java/util/Arrays" = some m.cls := findClass_of_methodNamed Bd.named
  have hnm := (name_of_methodNamed Bd.named Bd.method).1
  have X0 : Stand p l e ({ frames := 0, cells := 0, slots := 0, locals := 0 } : Room) s m #[(.ref o0), (.int (-1 : Int32))] below meth c s₁ [] 0 0 := Stand.of_body Bd
  have eH0 : s₁.heap = h0 := by rw [← hh, Bd.state]; rfl
  have N0 := Fr.nil n0
  have K0 := Keep.refl h0 [o0]
  show Gt p.tables e below (fun o U' => ∃ v L, o = .returned v ∧ Q3 Z o0 e0 e1 e2 e3 h0 n0 v U'.heap L ∧ FrameEnd s o U' L ({ frames := 0, cells := 0, slots := 0, locals := 0 } : Room).cells ({ frames := 0, cells := 0, slots := 0, locals := 0 } : Room).slots) _
  refine own_cast (ef3 m o0) ?_
  refine own_iconst X0 hx hby (v := (0 : Int32)) (by decide) d3_0 (pc' := 1) rfl ?_
  refine own_istoreN X0 hx hby (L' := #[.val (.ref o0), .val (.int (-1 : Int32)), .val (.int (0 : Int32)), .unset]) rfl d3_1 (pc' := 2) rfl ?_
  refine own_aloadN X0 hx hby rfl rfl d3_2 (pc' := 3) rfl ?_
  refine own_alen X0 hx hby hZ eH0 V_o0 (z := (4 : Int32)) (by first | rfl | decide) d3_3 (pc' := 4) rfl ?_
  refine own_istoreN X0 hx hby (L' := #[.val (.ref o0), .val (.int (-1 : Int32)), .val (.int (0 : Int32)), .val (.int (4 : Int32))]) rfl d3_4 (pc' := 5) rfl ?_
  refine own_iloadN X0 hx hby rfl d3_5 (pc' := 6) rfl ?_
  refine own_iloadN X0 hx hby rfl d3_6 (pc' := 7) rfl ?_
  refine own_icF X0 hx hby d3_7 (by decide) (pc' := 10) rfl ?_
  refine own_aloadN X0 hx hby rfl rfl d3_10 (pc' := 11) rfl ?_
  refine own_iloadN X0 hx hby rfl d3_11 (pc' := 12) rfl ?_
  refine own_iloadN X0 hx hby rfl d3_12 (pc' := 13) rfl ?_
  refine own_iastore X0 hx hby hZ eH0 V_o0 (by decide) (n := 0) (by decide) (of_decide_eq_true rfl) d3_13 (pc' := 14) rfl (fun T1 h1 X1 eH1 W1 => ?_)
  have N1 := Fr.snoc X1 N0 g_o0
  replace K0 := K0.wr W1 (Or.inl (by simp))
  replace Z0 := Nat.le_trans Z0 (Nat.le_of_eq W1.size.symm)
  replace V_o0 : Ary tr Z h1 o0 .int [(.int (-1 : Int32)), (.int e1), (.int e2), (.int e3)] := V_o0.set W1
  refine own_iinc X1 hx hby rfl (L' := #[.val (.ref o0), .val (.int (-1 : Int32)), .val (.int (1 : Int32)), .val (.int (4 : Int32))]) rfl d3_14 (pc' := 17) rfl ?_
  refine own_goto X1 hx hby d3_17 (by decide) (pc' := 5) (by decide) ?_
  refine own_iloadN X1 hx hby rfl d3_5 (pc' := 6) rfl ?_
  refine own_iloadN X1 hx hby rfl d3_6 (pc' := 7) rfl ?_
  refine own_icF X1 hx hby d3_7 (by decide) (pc' := 10) rfl ?_
  refine own_aloadN X1 hx hby rfl rfl d3_10 (pc' := 11) rfl ?_
  refine own_iloadN X1 hx hby rfl d3_11 (pc' := 12) rfl ?_
  refine own_iloadN X1 hx hby rfl d3_12 (pc' := 13) rfl ?_
  refine own_iastore X1 hx hby hZ eH1 V_o0 (by decide) (n := 1) (by decide) (of_decide_eq_true rfl) d3_13 (pc' := 14) rfl (fun T2 h2 X2 eH2 W2 => ?_)
  have N2 := Fr.snoc X2 N1 g_o0
  replace K0 := K0.wr W2 (Or.inl (by simp))
  replace Z0 := Nat.le_trans Z0 (Nat.le_of_eq W2.size.symm)
  replace V_o0 : Ary tr Z h2 o0 .int [(.int (-1 : Int32)), (.int (-1 : Int32)), (.int e2), (.int e3)] := V_o0.set W2
  refine own_iinc X2 hx hby rfl (L' := #[.val (.ref o0), .val (.int (-1 : Int32)), .val (.int (2 : Int32)), .val (.int (4 : Int32))]) rfl d3_14 (pc' := 17) rfl ?_
  refine own_goto X2 hx hby d3_17 (by decide) (pc' := 5) (by decide) ?_
  refine own_iloadN X2 hx hby rfl d3_5 (pc' := 6) rfl ?_
  refine own_iloadN X2 hx hby rfl d3_6 (pc' := 7) rfl ?_
  refine own_icF X2 hx hby d3_7 (by decide) (pc' := 10) rfl ?_
  refine own_aloadN X2 hx hby rfl rfl d3_10 (pc' := 11) rfl ?_
  refine own_iloadN X2 hx hby rfl d3_11 (pc' := 12) rfl ?_
  refine own_iloadN X2 hx hby rfl d3_12 (pc' := 13) rfl ?_
  refine own_iastore X2 hx hby hZ eH2 V_o0 (by decide) (n := 2) (by decide) (of_decide_eq_true rfl) d3_13 (pc' := 14) rfl (fun T3 h3 X3 eH3 W3 => ?_)
  have N3 := Fr.snoc X3 N2 g_o0
  replace K0 := K0.wr W3 (Or.inl (by simp))
  replace Z0 := Nat.le_trans Z0 (Nat.le_of_eq W3.size.symm)
  replace V_o0 : Ary tr Z h3 o0 .int [(.int (-1 : Int32)), (.int (-1 : Int32)), (.int (-1 : Int32)), (.int e3)] := V_o0.set W3
  refine own_iinc X3 hx hby rfl (L' := #[.val (.ref o0), .val (.int (-1 : Int32)), .val (.int (3 : Int32)), .val (.int (4 : Int32))]) rfl d3_14 (pc' := 17) rfl ?_
  refine own_goto X3 hx hby d3_17 (by decide) (pc' := 5) (by decide) ?_
  refine own_iloadN X3 hx hby rfl d3_5 (pc' := 6) rfl ?_
  refine own_iloadN X3 hx hby rfl d3_6 (pc' := 7) rfl ?_
  refine own_icF X3 hx hby d3_7 (by decide) (pc' := 10) rfl ?_
  refine own_aloadN X3 hx hby rfl rfl d3_10 (pc' := 11) rfl ?_
  refine own_iloadN X3 hx hby rfl d3_11 (pc' := 12) rfl ?_
  refine own_iloadN X3 hx hby rfl d3_12 (pc' := 13) rfl ?_
  refine own_iastore X3 hx hby hZ eH3 V_o0 (by decide) (n := 3) (by decide) (of_decide_eq_true rfl) d3_13 (pc' := 14) rfl (fun T4 h4 X4 eH4 W4 => ?_)
  have N4 := Fr.snoc X4 N3 g_o0
  replace K0 := K0.wr W4 (Or.inl (by simp))
  replace Z0 := Nat.le_trans Z0 (Nat.le_of_eq W4.size.symm)
  replace V_o0 : Ary tr Z h4 o0 .int [(.int (-1 : Int32)), (.int (-1 : Int32)), (.int (-1 : Int32)), (.int (-1 : Int32))] := V_o0.set W4
  refine own_iinc X4 hx hby rfl (L' := #[.val (.ref o0), .val (.int (-1 : Int32)), .val (.int (4 : Int32)), .val (.int (4 : Int32))]) rfl d3_14 (pc' := 17) rfl ?_
  refine own_goto X4 hx hby d3_17 (by decide) (pc' := 5) (by decide) ?_
  refine own_iloadN X4 hx hby rfl d3_5 (pc' := 6) rfl ?_
  refine own_iloadN X4 hx hby rfl d3_6 (pc' := 7) rfl ?_
  refine own_icT X4 hx hby d3_7 (by decide) (by decide) (pc' := 20) (by decide) ?_
  exact own_retV X4 hx hby Bd.notSynchronized Bd.returns d3_20 (by decide) (by decide) eH4 ⟨rfl, N4, K0, V_o0⟩
theorem ef1 (m : MethodId) (x0 : Addr) : entryFrame m #[(.ref x0), (.int (4 : Int32))] 2 = mkF m 0 #[.val (.ref x0), .val (.int (4 : Int32))] [] := by first | (simp [entryFrame, mkF, argsToLocals, Value.category]; done) | rfl
def Q1 (Z : State) (o0 : Addr) (u_heap_o0 : Value) (u_position_o0 : Value) (u_key_o0 : Value) (size_o0 : Int32) (h0 : Heap) (n0 : Nat) (v : Option Value) (h : Heap) (L : List Loc) : Prop := ∃ b2 b4 b6 : Addr, v = none ∧ Fr n0 L ∧ Keep h0 h [o0] ∧ h0.size ≤ b2 ∧ h0.size ≤ b4 ∧ h0.size ≤ b6 ∧ b2 ≠ b4 ∧ b2 ≠ b6 ∧ b4 ≠ b6 ∧ Exa Z h o0 "com/example/cross_town/crosstown/solve/NodeHeap" ∧ Fld Z h o0 "com/example/cross_town/crosstown/solve/NodeHeap" "heap" "[I" (.ref b2) ∧ Fld Z h o0 "com/example/cross_town/crosstown/solve/NodeHeap" "position" "[I" (.ref b4) ∧ Fld Z h o0 "com/example/cross_town/crosstown/solve/NodeHeap" "key" "[D" (.ref b6) ∧ Fld Z h o0 "com/example/cross_town/crosstown/solve/NodeHeap" "size" "I" (.int size_o0) ∧ Exa Z h b2 "[I" ∧ Ary tr Z h b2 .int [(.int (0 : Int32)), (.int (0 : Int32)), (.int (0 : Int32)), (.int (0 : Int32))] ∧ Exa Z h b4 "[I" ∧ Ary tr Z h b4 .int [(.int (-1 : Int32)), (.int (-1 : Int32)), (.int (-1 : Int32)), (.int (-1 : Int32))] ∧ Exa Z h b6 "[D" ∧ Ary tr Z h b6 .double [(.double (0 : UInt64)), (.double (0 : UInt64)), (.double (0 : UInt64)), (.double (0 : UInt64))]
set_option maxRecDepth 65536 in
set_option maxHeartbeats 40000000 in
theorem rm1 (l : Launch) (Z : State) (a0 : Array Value) (hw : ∀ d ∈ tables_1, d.before a0 Z = true) (ws : List Jvm.Cond) (o0 : Addr) (u_heap_o0 : Value) (u_position_o0 : Value) (u_key_o0 : Value) (size_o0 : Int32) (h0 : Heap) (n0 : Nat) (Z0 : n0 ≤ h0.size) (F_o0_heap : Fld Z h0 o0 "com/example/cross_town/crosstown/solve/NodeHeap" "heap" "[I" u_heap_o0) (F_o0_position : Fld Z h0 o0 "com/example/cross_town/crosstown/solve/NodeHeap" "position" "[I" u_position_o0) (F_o0_key : Fld Z h0 o0 "com/example/cross_town/crosstown/solve/NodeHeap" "key" "[D" u_key_o0) (F_o0_size : Fld Z h0 o0 "com/example/cross_town/crosstown/solve/NodeHeap" "size" "I" (.int size_o0)) (E_o0 : Exa Z h0 o0 "com/example/cross_town/crosstown/solve/NodeHeap") (g_o0 : n0 ≤ o0) :
    MetFree l (⟨"com/example/cross_town/crosstown/solve/NodeHeap", "<init>", "(I)V"⟩ : MethodName) (head1 (Jvm.Cond.code (⟨"com/example/cross_town/crosstown/solve/NodeHeap", "<init>", "(I)V"⟩ : MethodName) prog_33_method_1_code 2 none :: ws) ({ frames := 1, cells := 3, slots := 12, locals := 15 } : Room)) (fun a U => a = #[(.ref o0), (.int (4 : Int32))] ∧ Z.Warmed39 U.vm ∧ U.heap = h0) (fun _ _ _ _ _ => True) (fun _ U o U' => ∃ v L, o = .returned v ∧ Q1 Z o0 u_heap_o0 u_position_o0 u_key_o0 size_o0 h0 n0 v U'.heap L ∧ FrameEnd U o U' L ({ frames := 1, cells := 3, slots := 12, locals := 15 } : Room).cells ({ frames := 1, cells := 3, slots := 12, locals := 15 } : Room).slots) := by
  refine MetFree.of_bodySF (plainFor_of_name pn_com_example_cross_town_crosstown_solve_NodeHeap) hisR ?_
  intro p e s m args below meth c s₁ Bd hml0 hP hK
  obtain ⟨rfl, hZ, hh⟩ := hP
  have hx := Bd.exec
  have hby := Bd.bytes
  have hml : c.maxLocals = 2 := hml0
  have hown : s.vm.findClass "com/example/cross_town/crosstown/solve/NodeHeap" = some m.cls := findClass_of_methodNamed Bd.named
  have hnm := (name_of_methodNamed Bd.named Bd.method).1
  have X0 : Stand p l e ({ frames := 1, cells := 3, slots := 12, locals := 15 } : Room) s m #[(.ref o0), (.int (4 : Int32))] below meth c s₁ [] 0 0 := Stand.of_body Bd
  have eH0 : s₁.heap = h0 := by rw [← hh, Bd.state]; rfl
  have N0 := Fr.nil n0
  have K0 := Keep.refl h0 [o0]
  show Gt p.tables e below (fun o U' => ∃ v L, o = .returned v ∧ Q1 Z o0 u_heap_o0 u_position_o0 u_key_o0 size_o0 h0 n0 v U'.heap L ∧ FrameEnd s o U' L ({ frames := 1, cells := 3, slots := 12, locals := 15 } : Room).cells ({ frames := 1, cells := 3, slots := 12, locals := 15 } : Room).slots) _
  refine own_cast (ef1 m o0) ?_
  refine own_aloadN X0 hx hby rfl rfl d1_0 (pc' := 1) rfl ?_
  refine own_initO X0 hx hby hZ hown (hw _ (List.mem_of_getElem? (i := 7) rfl)) (hw _ (List.mem_of_getElem? (i := 8) rfl)) (hw _ (List.mem_of_getElem? (i := 9) rfl)) eH0 (by rw [hml]; rfl) d1_1 (pc' := 4) rfl (by decide) (W := 0) (Nat.le_of_eq rfl) (by decide) (fun T1 X1 eH1 => ?_)
  refine own_aloadN X1 hx hby rfl rfl d1_4 (pc' := 5) rfl ?_
  refine own_iloadN X1 hx hby rfl d1_5 (pc' := 6) rfl ?_
  refine own_newP X1 hx hby hZ (hw _ (List.mem_of_getElem? (i := 10) rfl)) eH1 d1_6 (pc' := 8) rfl (by decide) (N := 4) (by decide) (cap := 4) (by decide) (by decide) (by decide) (by decide) (ad := "[I") (by decide) (fun T2 h2 b2 X2 eH2 E2 g2 E_b2 V_b2 => ?_)
  have g_b2 : n0 ≤ b2 := g2 ▸ Z0
  have sz_b2 : h0.size ≤ b2 := g2 ▸ K0.1
  have ne_o0_b2 : o0 ≠ b2 := Nat.ne_of_lt (g2 ▸ E_o0.lt)
  replace E_o0 := E_o0.ext E2
  replace F_o0_heap := F_o0_heap.ext E2
  replace F_o0_position := F_o0_position.ext E2
  replace F_o0_key := F_o0_key.ext E2
  replace F_o0_size := F_o0_size.ext E2
  replace K0 := K0.ext E2
  replace Z0 := Nat.le_trans Z0 E2.1
  have V_b2 : Ary tr Z h2 b2 .int [(.int (0 : Int32)), (.int (0 : Int32)), (.int (0 : Int32)), (.int (0 : Int32))] := V_b2
  refine own_putF X2 hx hby hZ hown (host := "") (Or.inl (hw _ (List.mem_of_getElem? (i := 11) rfl))) Via.refl eH2 F_o0_heap E_o0 (Or.inr ⟨(hw _ (List.mem_of_getElem? (i := 12) rfl)), rfl, hnm⟩) (hw _ (List.mem_of_getElem? (i := 2) rfl)) (ty := (.array .int)) (by decide) rfl rfl d1_8 (pc' := 11) rfl (fun T3 h3 X3 eH3 W3 => ?_)
  replace E_o0 := E_o0.wr W3
  replace F_o0_heap := F_o0_heap.same W3
  replace F_o0_position := F_o0_position.other W3 (Or.inr (slot_ne (Or.inr (hw _ (List.mem_of_getElem? (i := 14) rfl))) (Or.inr (hw _ (List.mem_of_getElem? (i := 12) rfl))) (by decide) (t := (.array .int)) (t' := (.array .int)) (by decide) (by decide)))
  replace F_o0_key := F_o0_key.other W3 (Or.inr (slot_ne (Or.inr (hw _ (List.mem_of_getElem? (i := 16) rfl))) (Or.inr (hw _ (List.mem_of_getElem? (i := 12) rfl))) (by decide) (t := (.array .double)) (t' := (.array .int)) (by decide) (by decide)))
  replace F_o0_size := F_o0_size.other W3 (Or.inr (slot_ne (Or.inl (hw _ (List.mem_of_getElem? (i := 27) rfl))) (Or.inr (hw _ (List.mem_of_getElem? (i := 12) rfl))) (by decide) (t := .int) (t' := (.array .int)) (by decide) (by decide)))
  replace E_b2 := E_b2.wr W3
  replace V_b2 := V_b2.other W3 (Ne.symm ne_o0_b2)
  have N3 := Fr.snoc X3 N0 g_o0
  replace K0 := K0.wr W3 (Or.inl (by simp))
  replace Z0 := Nat.le_trans Z0 (Nat.le_of_eq W3.size.symm)
  refine own_aloadN X3 hx hby rfl rfl d1_11 (pc' := 12) rfl ?_
  refine own_iloadN X3 hx hby rfl d1_12 (pc' := 13) rfl ?_
  refine own_newP X3 hx hby hZ (hw _ (List.mem_of_getElem? (i := 10) rfl)) eH3 d1_13 (pc' := 15) rfl (by decide) (N := 4) (by decide) (cap := 4) (by decide) (by decide) (by decide) (by decide) (ad := "[I") (by decide) (fun T4 h4 b4 X4 eH4 E4 g4 E_b4 V_b4 => ?_)
  have g_b4 : n0 ≤ b4 := g4 ▸ Z0
  have sz_b4 : h0.size ≤ b4 := g4 ▸ K0.1
  have ne_o0_b4 : o0 ≠ b4 := Nat.ne_of_lt (g4 ▸ E_o0.lt)
  have ne_b2_b4 : b2 ≠ b4 := Nat.ne_of_lt (g4 ▸ E_b2.lt)
  replace E_o0 := E_o0.ext E4
  replace F_o0_heap := F_o0_heap.ext E4
  replace F_o0_position := F_o0_position.ext E4
  replace F_o0_key := F_o0_key.ext E4
  replace F_o0_size := F_o0_size.ext E4
  replace E_b2 := E_b2.ext E4
  replace V_b2 := V_b2.ext E4
  replace K0 := K0.ext E4
  replace Z0 := Nat.le_trans Z0 E4.1
  have V_b4 : Ary tr Z h4 b4 .int [(.int (0 : Int32)), (.int (0 : Int32)), (.int (0 : Int32)), (.int (0 : Int32))] := V_b4
  refine own_putF X4 hx hby hZ hown (host := "") (Or.inl (hw _ (List.mem_of_getElem? (i := 13) rfl))) Via.refl eH4 F_o0_position E_o0 (Or.inr ⟨(hw _ (List.mem_of_getElem? (i := 14) rfl)), rfl, hnm⟩) (hw _ (List.mem_of_getElem? (i := 2) rfl)) (ty := (.array .int)) (by decide) rfl rfl d1_15 (pc' := 18) rfl (fun T5 h5 X5 eH5 W5 => ?_)
  replace E_o0 := E_o0.wr W5
  replace F_o0_heap := F_o0_heap.other W5 (Or.inr (slot_ne (Or.inr (hw _ (List.mem_of_getElem? (i := 12) rfl))) (Or.inr (hw _ (List.mem_of_getElem? (i := 14) rfl))) (by decide) (t := (.array .int)) (t' := (.array .int)) (by decide) (by decide)))
  replace F_o0_position := F_o0_position.same W5
  replace F_o0_key := F_o0_key.other W5 (Or.inr (slot_ne (Or.inr (hw _ (List.mem_of_getElem? (i := 16) rfl))) (Or.inr (hw _ (List.mem_of_getElem? (i := 14) rfl))) (by decide) (t := (.array .double)) (t' := (.array .int)) (by decide) (by decide)))
  replace F_o0_size := F_o0_size.other W5 (Or.inr (slot_ne (Or.inl (hw _ (List.mem_of_getElem? (i := 27) rfl))) (Or.inr (hw _ (List.mem_of_getElem? (i := 14) rfl))) (by decide) (t := .int) (t' := (.array .int)) (by decide) (by decide)))
  replace E_b2 := E_b2.wr W5
  replace V_b2 := V_b2.other W5 (Ne.symm ne_o0_b2)
  replace E_b4 := E_b4.wr W5
  replace V_b4 := V_b4.other W5 (Ne.symm ne_o0_b4)
  have N5 := Fr.snoc X5 N3 g_o0
  replace K0 := K0.wr W5 (Or.inl (by simp))
  replace Z0 := Nat.le_trans Z0 (Nat.le_of_eq W5.size.symm)
  refine own_aloadN X5 hx hby rfl rfl d1_18 (pc' := 19) rfl ?_
  refine own_iloadN X5 hx hby rfl d1_19 (pc' := 20) rfl ?_
  refine own_newP X5 hx hby hZ (hw _ (List.mem_of_getElem? (i := 0) rfl)) eH5 d1_20 (pc' := 22) rfl (by decide) (N := 4) (by decide) (cap := 4) (by decide) (by decide) (by decide) (by decide) (ad := "[D") (by decide) (fun T6 h6 b6 X6 eH6 E6 g6 E_b6 V_b6 => ?_)
  have g_b6 : n0 ≤ b6 := g6 ▸ Z0
  have sz_b6 : h0.size ≤ b6 := g6 ▸ K0.1
  have ne_o0_b6 : o0 ≠ b6 := Nat.ne_of_lt (g6 ▸ E_o0.lt)
  have ne_b2_b6 : b2 ≠ b6 := Nat.ne_of_lt (g6 ▸ E_b2.lt)
  have ne_b4_b6 : b4 ≠ b6 := Nat.ne_of_lt (g6 ▸ E_b4.lt)
  replace E_o0 := E_o0.ext E6
  replace F_o0_heap := F_o0_heap.ext E6
  replace F_o0_position := F_o0_position.ext E6
  replace F_o0_key := F_o0_key.ext E6
  replace F_o0_size := F_o0_size.ext E6
  replace E_b2 := E_b2.ext E6
  replace V_b2 := V_b2.ext E6
  replace E_b4 := E_b4.ext E6
  replace V_b4 := V_b4.ext E6
  replace K0 := K0.ext E6
  replace Z0 := Nat.le_trans Z0 E6.1
  have V_b6 : Ary tr Z h6 b6 .double [(.double (0 : UInt64)), (.double (0 : UInt64)), (.double (0 : UInt64)), (.double (0 : UInt64))] := V_b6
  refine own_putF X6 hx hby hZ hown (host := "") (Or.inl (hw _ (List.mem_of_getElem? (i := 15) rfl))) Via.refl eH6 F_o0_key E_o0 (Or.inr ⟨(hw _ (List.mem_of_getElem? (i := 16) rfl)), rfl, hnm⟩) (hw _ (List.mem_of_getElem? (i := 2) rfl)) (ty := (.array .double)) (by decide) rfl rfl d1_22 (pc' := 25) rfl (fun T7 h7 X7 eH7 W7 => ?_)
  replace E_o0 := E_o0.wr W7
  replace F_o0_heap := F_o0_heap.other W7 (Or.inr (slot_ne (Or.inr (hw _ (List.mem_of_getElem? (i := 12) rfl))) (Or.inr (hw _ (List.mem_of_getElem? (i := 16) rfl))) (by decide) (t := (.array .int)) (t' := (.array .double)) (by decide) (by decide)))
  replace F_o0_position := F_o0_position.other W7 (Or.inr (slot_ne (Or.inr (hw _ (List.mem_of_getElem? (i := 14) rfl))) (Or.inr (hw _ (List.mem_of_getElem? (i := 16) rfl))) (by decide) (t := (.array .int)) (t' := (.array .double)) (by decide) (by decide)))
  replace F_o0_key := F_o0_key.same W7
  replace F_o0_size := F_o0_size.other W7 (Or.inr (slot_ne (Or.inl (hw _ (List.mem_of_getElem? (i := 27) rfl))) (Or.inr (hw _ (List.mem_of_getElem? (i := 16) rfl))) (by decide) (t := .int) (t' := (.array .double)) (by decide) (by decide)))
  replace E_b2 := E_b2.wr W7
  replace V_b2 := V_b2.other W7 (Ne.symm ne_o0_b2)
  replace E_b4 := E_b4.wr W7
  replace V_b4 := V_b4.other W7 (Ne.symm ne_o0_b4)
  replace E_b6 := E_b6.wr W7
  replace V_b6 := V_b6.other W7 (Ne.symm ne_o0_b6)
  have N7 := Fr.snoc X7 N5 g_o0
  replace K0 := K0.wr W7 (Or.inl (by simp))
  replace Z0 := Nat.le_trans Z0 (Nat.le_of_eq W7.size.symm)
  refine own_aloadN X7 hx hby rfl rfl d1_25 (pc' := 26) rfl ?_
  refine own_getF X7 hx hby hZ hown (host := "") (Or.inl (hw _ (List.mem_of_getElem? (i := 13) rfl))) Via.refl eH7 F_o0_position d1_26 (pc' := 29) rfl (fun T8 X8 eH8 => ?_)
  refine own_iconst X8 hx hby (v := (-1 : Int32)) (by decide) d1_29 (pc' := 30) rfl ?_
  refine own_static X8 hx hby hZ (y := (⟨"java/util/Arrays", "fill", "([II)V"⟩ : MethodName)) (rest := []) hown (hw _ (List.mem_of_getElem? (i := 17) rfl)) (hw _ (List.mem_of_getElem? (i := 18) rfl)) (hw _ (List.mem_of_getElem? (i := 20) rfl)) (hw _ (List.mem_of_getElem? (i := 19) rfl)) (by decide) (rm3 l Z a0 hw [] b4 (0 : Int32) (0 : Int32) (0 : Int32) (0 : Int32) h7 n0 Z0 V_b4 g_b4) eH8 (by rw [hml]; rfl) (argsL := [(.ref b4), (.int (-1 : Int32))]) rfl (lenOf pd_0 rfl) rfl d1_30 (pc' := 33) rfl (by decide) (W := 0) (Nat.le_of_eq rfl) (by decide) (by decide) (by decide) (fun T9 h9 Lc9 v9r X9 eH9 hQ9 => ?_)
  obtain ⟨rfl, Nq9, Kq9, gq9_0⟩ := hQ9
  have N9 := Fr.app N7 Nq9
  replace E_o0 := E_o0.keep Kq9
  replace F_o0_heap := F_o0_heap.keep Kq9 (ninS ne_o0_b4 nin0)
  replace F_o0_position := F_o0_position.keep Kq9 (ninS ne_o0_b4 nin0)
  replace F_o0_key := F_o0_key.keep Kq9 (ninS ne_o0_b4 nin0)
  replace F_o0_size := F_o0_size.keep Kq9 (ninS ne_o0_b4 nin0)
  replace E_b2 := E_b2.keep Kq9
  replace V_b2 := V_b2.keep Kq9 (ninS ne_b2_b4 nin0)
  replace E_b4 := E_b4.keep Kq9
  replace E_b6 := E_b6.keep Kq9
  replace V_b6 := V_b6.keep Kq9 (ninS (Ne.symm ne_b4_b6) nin0)
  replace K0 := K0.trans Kq9 (allS (Or.inr sz_b4) all0)
  have V_b4 := gq9_0
  replace Z0 := Nat.le_trans Z0 Kq9.1
  exact own_retV X9 hx hby Bd.notSynchronized Bd.returns d1_33 (by decide) (by decide) eH9 ⟨b2, b4, b6, rfl, N9, K0, sz_b2, sz_b4, sz_b6, ne_b2_b4, ne_b2_b6, ne_b4_b6, E_o0, F_o0_heap, F_o0_position, F_o0_key, F_o0_size, E_b2, V_b2, E_b4, V_b4, E_b6, V_b6⟩
theorem ef9 (m : MethodId) (x0 : Addr) : entryFrame m #[(.ref x0)] 1 = mkF m 0 #[.val (.ref x0)] [] := by first | (simp [entryFrame, mkF, argsToLocals, Value.category]; done) | rfl
def Q9 (Z : State) (o0 : Addr) (size_o0 : Int32) (h0 : Heap) (n0 : Nat) (v : Option Value) (h : Heap) (L : List Loc) : Prop := v = some (.int (if size_o0 = 0 then (1 : Int32) else (0 : Int32))) ∧ Fr n0 L ∧ h0 = h
set_option maxRecDepth 65536 in
set_option maxHeartbeats 40000000 in
theorem rm9 (l : Launch) (Z : State) (a0 : Array Value) (hw : ∀ d ∈ tables_1, d.before a0 Z = true) (ws : List Jvm.Cond) (o0 : Addr) (size_o0 : Int32) (h0 : Heap) (n0 : Nat) (Z0 : n0 ≤ h0.size) (F_o0_size : Fld Z h0 o0 "com/example/cross_town/crosstown/solve/NodeHeap" "size" "I" (.int size_o0)) :
    MetFree l (⟨"com/example/cross_town/crosstown/solve/NodeHeap", "isEmpty", "()Z"⟩ : MethodName) (head1 (Jvm.Cond.code (⟨"com/example/cross_town/crosstown/solve/NodeHeap", "isEmpty", "()Z"⟩ : MethodName) prog_33_method_2_code 1 (some .boolean) :: ws) ({ frames := 0, cells := 0, slots := 0, locals := 0 } : Room)) (fun a U => a = #[(.ref o0)] ∧ Z.Warmed39 U.vm ∧ U.heap = h0) (fun _ _ _ _ _ => True) (fun _ U o U' => ∃ v L, o = .returned v ∧ Q9 Z o0 size_o0 h0 n0 v U'.heap L ∧ FrameEnd U o U' L ({ frames := 0, cells := 0, slots := 0, locals := 0 } : Room).cells ({ frames := 0, cells := 0, slots := 0, locals := 0 } : Room).slots) := by
  refine MetFree.of_bodySF (plainFor_of_name pn_com_example_cross_town_crosstown_solve_NodeHeap) hisR ?_
  intro p e s m args below meth c s₁ Bd hml0 hP hK
  obtain ⟨rfl, hZ, hh⟩ := hP
  have hx := Bd.exec
  have hby := Bd.bytes
  have hml : c.maxLocals = 1 := hml0
  have hown : s.vm.findClass "com/example/cross_town/crosstown/solve/NodeHeap" = some m.cls := findClass_of_methodNamed Bd.named
  have hnm := (name_of_methodNamed Bd.named Bd.method).1
  have X0 : Stand p l e ({ frames := 0, cells := 0, slots := 0, locals := 0 } : Room) s m #[(.ref o0)] below meth c s₁ [] 0 0 := Stand.of_body Bd
  have eH0 : s₁.heap = h0 := by rw [← hh, Bd.state]; rfl
  have N0 := Fr.nil n0
  show Gt p.tables e below (fun o U' => ∃ v L, o = .returned v ∧ Q9 Z o0 size_o0 h0 n0 v U'.heap L ∧ FrameEnd s o U' L ({ frames := 0, cells := 0, slots := 0, locals := 0 } : Room).cells ({ frames := 0, cells := 0, slots := 0, locals := 0 } : Room).slots) _
  refine own_cast (ef9 m o0) ?_
  refine own_aloadN X0 hx hby rfl rfl d9_0 (pc' := 1) rfl ?_
  refine own_getF X0 hx hby hZ hown (host := "") (Or.inl (hw _ (List.mem_of_getElem? (i := 26) rfl))) Via.refl eH0 F_o0_size d9_1 (pc' := 4) rfl (fun T1 X1 eH1 => ?_)
  by_cases hc2 : size_o0 = 0
  · refine own_ifF X1 hx hby d9_4 (own_i0_ne_p hc2) (pc' := 7) rfl ?_
    refine own_iconst X1 hx hby (v := (1 : Int32)) (by decide) d9_7 (pc' := 8) rfl ?_
    refine own_goto X1 hx hby d9_8 (by decide) (pc' := 12) (by decide) ?_
    exact own_retZ X1 hx hby Bd.notSynchronized Bd.returns (Or.inr rfl) d9_12 (by decide) (by decide) eH1 ⟨(by rw [if_pos hc2]), N0, rfl⟩
  · refine own_ifT X1 hx hby d9_4 (own_i0_ne_n hc2) (by decide) (pc' := 11) (by decide) ?_
    refine own_iconst X1 hx hby (v := (0 : Int32)) (by decide) d9_11 (pc' := 12) rfl ?_
    exact own_retZ X1 hx hby Bd.notSynchronized Bd.returns (Or.inl rfl) d9_12 (by decide) (by decide) eH1 ⟨(by rw [if_neg hc2]), N0, rfl⟩
theorem ef60 (m : MethodId) (x0 : Addr) (x2 : Int32) : entryFrame m #[(.ref x0), (.int (0 : Int32)), (.int x2)] 3 = mkF m 0 #[.val (.ref x0), .val (.int (0 : Int32)), .val (.int x2)] [] := by first | (simp [entryFrame, mkF, argsToLocals, Value.category]; done) | rfl
def Q60 (Z : State) (o0 : Addr) (p2 : Int32) (heap_o0 : Addr) (position_o0 : Addr) (y0 : Int32) (y1 : Int32) (y2 : Int32) (y3 : Int32) (P : List Int32) (h0 : Heap) (n0 : Nat) (v : Option Value) (h : Heap) (L : List Loc) : Prop := v = none ∧ Fr n0 L ∧ Keep h0 h [heap_o0, position_o0] ∧ Ary tr Z h heap_o0 .int [(.int p2), (.int y1), (.int y2), (.int y3)] ∧ Ary tr Z h position_o0 .int ((P.set p2.toNatClampNeg (0 : Int32)).map Value.int)
set_option maxRecDepth 65536 in
set_option maxHeartbeats 40000000 in
theorem rm60 (l : Launch) (Z : State) (a0 : Array Value) (hw : ∀ d ∈ tables_1, d.before a0 Z = true) (ws : List Jvm.Cond) (o0 : Addr) (p2 : Int32) (heap_o0 : Addr) (position_o0 : Addr) (y0 : Int32) (y1 : Int32) (y2 : Int32) (y3 : Int32) (P : List Int32) (h0 : Heap) (n0 : Nat) (Z0 : n0 ≤ h0.size) (E_o0 : Exa Z h0 o0 "com/example/cross_town/crosstown/solve/NodeHeap") (F_o0_heap : Fld Z h0 o0 "com/example/cross_town/crosstown/solve/NodeHeap" "heap" "[I" (.ref heap_o0)) (F_o0_position : Fld Z h0 o0 "com/example/cross_town/crosstown/solve/NodeHeap" "position" "[I" (.ref position_o0)) (V_heap_o0 : Ary tr Z h0 heap_o0 .int [(.int y0), (.int y1), (.int y2), (.int y3)]) (V_position_o0 : Ary tr Z h0 position_o0 .int (P.map Value.int)) (hl_P : (P.length = 4)) (rg_p2 : (0 ≤ p2.toInt ∧ p2.toInt < 4)) (g_heap_o0 : n0 ≤ heap_o0) (ne_o0_heap_o0 : o0 ≠ heap_o0) (ne_position_o0_heap_o0 : position_o0 ≠ heap_o0) (g_position_o0 : n0 ≤ position_o0) (ne_o0_position_o0 : o0 ≠ position_o0) :
    MetFree l (⟨"com/example/cross_town/crosstown/solve/NodeHeap", "place", "(II)V"⟩ : MethodName) (head1 (Jvm.Cond.code (⟨"com/example/cross_town/crosstown/solve/NodeHeap", "place", "(II)V"⟩ : MethodName) prog_33_method_7_code 3 none :: ws) ({ frames := 0, cells := 0, slots := 0, locals := 0 } : Room)) (fun a U => a = #[(.ref o0), (.int (0 : Int32)), (.int p2)] ∧ Z.Warmed39 U.vm ∧ U.heap = h0) (fun _ _ _ _ _ => True) (fun _ U o U' => ∃ v L, o = .returned v ∧ Q60 Z o0 p2 heap_o0 position_o0 y0 y1 y2 y3 P h0 n0 v U'.heap L ∧ FrameEnd U o U' L ({ frames := 0, cells := 0, slots := 0, locals := 0 } : Room).cells ({ frames := 0, cells := 0, slots := 0, locals := 0 } : Room).slots) := by
  refine MetFree.of_bodySF (plainFor_of_name pn_com_example_cross_town_crosstown_solve_NodeHeap) hisR ?_
  intro p e s m args below meth c s₁ Bd hml0 hP hK
  obtain ⟨rfl, hZ, hh⟩ := hP
  have hx := Bd.exec
  have hby := Bd.bytes
  have hml : c.maxLocals = 3 := hml0
  have hown : s.vm.findClass "com/example/cross_town/crosstown/solve/NodeHeap" = some m.cls := findClass_of_methodNamed Bd.named
  have hnm := (name_of_methodNamed Bd.named Bd.method).1
  have X0 : Stand p l e ({ frames := 0, cells := 0, slots := 0, locals := 0 } : Room) s m #[(.ref o0), (.int (0 : Int32)), (.int p2)] below meth c s₁ [] 0 0 := Stand.of_body Bd
  have eH0 : s₁.heap = h0 := by rw [← hh, Bd.state]; rfl
  have N0 := Fr.nil n0
  have K0 := Keep.refl h0 [heap_o0, position_o0]
  show Gt p.tables e below (fun o U' => ∃ v L, o = .returned v ∧ Q60 Z o0 p2 heap_o0 position_o0 y0 y1 y2 y3 P h0 n0 v U'.heap L ∧ FrameEnd s o U' L ({ frames := 0, cells := 0, slots := 0, locals := 0 } : Room).cells ({ frames := 0, cells := 0, slots := 0, locals := 0 } : Room).slots) _
  refine own_cast (ef60 m o0 p2) ?_
  refine own_aloadN X0 hx hby rfl rfl d6_0 (pc' := 1) rfl ?_
  refine own_getF X0 hx hby hZ hown (host := "") (Or.inl (hw _ (List.mem_of_getElem? (i := 11) rfl))) Via.refl eH0 F_o0_heap d6_1 (pc' := 4) rfl (fun T1 X1 eH1 => ?_)
  refine own_iloadN X1 hx hby rfl d6_4 (pc' := 5) rfl ?_
  refine own_iloadN X1 hx hby rfl d6_5 (pc' := 6) rfl ?_
  refine own_iastore X1 hx hby hZ eH1 V_heap_o0 (by decide) (n := 0) (by decide) (of_decide_eq_true rfl) d6_6 (pc' := 7) rfl (fun T2 h2 X2 eH2 W2 => ?_)
  replace E_o0 := E_o0.wr W2
  replace F_o0_heap := F_o0_heap.other W2 (Or.inl ne_o0_heap_o0)
  replace F_o0_position := F_o0_position.other W2 (Or.inl ne_o0_heap_o0)
  replace V_position_o0 := V_position_o0.other W2 ne_position_o0_heap_o0
  have N2 := Fr.snoc X2 N0 g_heap_o0
  replace K0 := K0.wr W2 (Or.inl (by simp))
  replace Z0 := Nat.le_trans Z0 (Nat.le_of_eq W2.size.symm)
  replace V_heap_o0 : Ary tr Z h2 heap_o0 .int [(.int p2), (.int y1), (.int y2), (.int y3)] := V_heap_o0.set W2
  refine own_aloadN X2 hx hby rfl rfl d6_7 (pc' := 8) rfl ?_
  refine own_getF X2 hx hby hZ hown (host := "") (Or.inl (hw _ (List.mem_of_getElem? (i := 13) rfl))) Via.refl eH2 F_o0_position d6_8 (pc' := 11) rfl (fun T3 X3 eH3 => ?_)
  refine own_iloadN X3 hx hby rfl d6_11 (pc' := 12) rfl ?_
  refine own_iloadN X3 hx hby rfl d6_12 (pc' := 13) rfl ?_
  refine own_iastore X3 hx hby hZ eH3 V_position_o0 (own_rg0 rg_p2) (n := p2.toNatClampNeg) rfl (by rw [List.length_map]; exact own_rgl rg_p2 hl_P) d6_13 (pc' := 14) rfl (fun T4 h4 X4 eH4 W4 => ?_)
  replace E_o0 := E_o0.wr W4
  replace F_o0_heap := F_o0_heap.other W4 (Or.inl ne_o0_position_o0)
  replace F_o0_position := F_o0_position.other W4 (Or.inl ne_o0_position_o0)
  replace V_heap_o0 := V_heap_o0.other W4 (Ne.symm ne_position_o0_heap_o0)
  have N4 := Fr.snoc X4 N2 g_position_o0
  replace K0 := K0.wr W4 (Or.inl (by simp))
  replace Z0 := Nat.le_trans Z0 (Nat.le_of_eq W4.size.symm)
  have hl5 : (P.set p2.toNatClampNeg (0 : Int32)).length = 4 := by rw [List.length_set]; exact hl_P
  replace V_position_o0 : Ary tr Z h4 position_o0 .int ((P.set p2.toNatClampNeg (0 : Int32)).map Value.int) := by rw [List.map_set]; exact V_position_o0.set W4
  exact own_retV X4 hx hby Bd.notSynchronized Bd.returns d6_14 (by decide) (by decide) eH4 ⟨rfl, N4, K0, V_heap_o0, V_position_o0⟩
theorem ef61 (m : MethodId) (x0 : Addr) (x2 : Int32) : entryFrame m #[(.ref x0), (.int (1 : Int32)), (.int x2)] 3 = mkF m 0 #[.val (.ref x0), .val (.int (1 : Int32)), .val (.int x2)] [] := by first | (simp [entryFrame, mkF, argsToLocals, Value.category]; done) | rfl
def Q61 (Z : State) (o0 : Addr) (p2 : Int32) (heap_o0 : Addr) (position_o0 : Addr) (y0 : Int32) (y1 : Int32) (y2 : Int32) (y3 : Int32) (P : List Int32) (h0 : Heap) (n0 : Nat) (v : Option Value) (h : Heap) (L : List Loc) : Prop := v = none ∧ Fr n0 L ∧ Keep h0 h [heap_o0, position_o0] ∧ Ary tr Z h heap_o0 .int [(.int y0), (.int p2), (.int y2), (.int y3)] ∧ Ary tr Z h position_o0 .int ((P.set p2.toNatClampNeg (1 : Int32)).map Value.int)
set_option maxRecDepth 65536 in
set_option maxHeartbeats 40000000 in
theorem rm61 (l : Launch) (Z : State) (a0 : Array Value) (hw : ∀ d ∈ tables_1, d.before a0 Z = true) (ws : List Jvm.Cond) (o0 : Addr) (p2 : Int32) (heap_o0 : Addr) (position_o0 : Addr) (y0 : Int32) (y1 : Int32) (y2 : Int32) (y3 : Int32) (P : List Int32) (h0 : Heap) (n0 : Nat) (Z0 : n0 ≤ h0.size) (E_o0 : Exa Z h0 o0 "com/example/cross_town/crosstown/solve/NodeHeap") (F_o0_heap : Fld Z h0 o0 "com/example/cross_town/crosstown/solve/NodeHeap" "heap" "[I" (.ref heap_o0)) (F_o0_position : Fld Z h0 o0 "com/example/cross_town/crosstown/solve/NodeHeap" "position" "[I" (.ref position_o0)) (V_heap_o0 : Ary tr Z h0 heap_o0 .int [(.int y0), (.int y1), (.int y2), (.int y3)]) (V_position_o0 : Ary tr Z h0 position_o0 .int (P.map Value.int)) (hl_P : (P.length = 4)) (rg_p2 : (0 ≤ p2.toInt ∧ p2.toInt < 4)) (g_heap_o0 : n0 ≤ heap_o0) (ne_o0_heap_o0 : o0 ≠ heap_o0) (ne_position_o0_heap_o0 : position_o0 ≠ heap_o0) (g_position_o0 : n0 ≤ position_o0) (ne_o0_position_o0 : o0 ≠ position_o0) :
    MetFree l (⟨"com/example/cross_town/crosstown/solve/NodeHeap", "place", "(II)V"⟩ : MethodName) (head1 (Jvm.Cond.code (⟨"com/example/cross_town/crosstown/solve/NodeHeap", "place", "(II)V"⟩ : MethodName) prog_33_method_7_code 3 none :: ws) ({ frames := 0, cells := 0, slots := 0, locals := 0 } : Room)) (fun a U => a = #[(.ref o0), (.int (1 : Int32)), (.int p2)] ∧ Z.Warmed39 U.vm ∧ U.heap = h0) (fun _ _ _ _ _ => True) (fun _ U o U' => ∃ v L, o = .returned v ∧ Q61 Z o0 p2 heap_o0 position_o0 y0 y1 y2 y3 P h0 n0 v U'.heap L ∧ FrameEnd U o U' L ({ frames := 0, cells := 0, slots := 0, locals := 0 } : Room).cells ({ frames := 0, cells := 0, slots := 0, locals := 0 } : Room).slots) := by
  refine MetFree.of_bodySF (plainFor_of_name pn_com_example_cross_town_crosstown_solve_NodeHeap) hisR ?_
  intro p e s m args below meth c s₁ Bd hml0 hP hK
  obtain ⟨rfl, hZ, hh⟩ := hP
  have hx := Bd.exec
  have hby := Bd.bytes
  have hml : c.maxLocals = 3 := hml0
  have hown : s.vm.findClass "com/example/cross_town/crosstown/solve/NodeHeap" = some m.cls := findClass_of_methodNamed Bd.named
  have hnm := (name_of_methodNamed Bd.named Bd.method).1
  have X0 : Stand p l e ({ frames := 0, cells := 0, slots := 0, locals := 0 } : Room) s m #[(.ref o0), (.int (1 : Int32)), (.int p2)] below meth c s₁ [] 0 0 := Stand.of_body Bd
  have eH0 : s₁.heap = h0 := by rw [← hh, Bd.state]; rfl
  have N0 := Fr.nil n0
  have K0 := Keep.refl h0 [heap_o0, position_o0]
  show Gt p.tables e below (fun o U' => ∃ v L, o = .returned v ∧ Q61 Z o0 p2 heap_o0 position_o0 y0 y1 y2 y3 P h0 n0 v U'.heap L ∧ FrameEnd s o U' L ({ frames := 0, cells := 0, slots := 0, locals := 0 } : Room).cells ({ frames := 0, cells := 0, slots := 0, locals := 0 } : Room).slots) _
  refine own_cast (ef61 m o0 p2) ?_
  refine own_aloadN X0 hx hby rfl rfl d6_0 (pc' := 1) rfl ?_
  refine own_getF X0 hx hby hZ hown (host := "") (Or.inl (hw _ (List.mem_of_getElem? (i := 11) rfl))) Via.refl eH0 F_o0_heap d6_1 (pc' := 4) rfl (fun T1 X1 eH1 => ?_)
  refine own_iloadN X1 hx hby rfl d6_4 (pc' := 5) rfl ?_
  refine own_iloadN X1 hx hby rfl d6_5 (pc' := 6) rfl ?_
  refine own_iastore X1 hx hby hZ eH1 V_heap_o0 (by decide) (n := 1) (by decide) (of_decide_eq_true rfl) d6_6 (pc' := 7) rfl (fun T2 h2 X2 eH2 W2 => ?_)
  replace E_o0 := E_o0.wr W2
  replace F_o0_heap := F_o0_heap.other W2 (Or.inl ne_o0_heap_o0)
  replace F_o0_position := F_o0_position.other W2 (Or.inl ne_o0_heap_o0)
  replace V_position_o0 := V_position_o0.other W2 ne_position_o0_heap_o0
  have N2 := Fr.snoc X2 N0 g_heap_o0
  replace K0 := K0.wr W2 (Or.inl (by simp))
  replace Z0 := Nat.le_trans Z0 (Nat.le_of_eq W2.size.symm)
  replace V_heap_o0 : Ary tr Z h2 heap_o0 .int [(.int y0), (.int p2), (.int y2), (.int y3)] := V_heap_o0.set W2
  refine own_aloadN X2 hx hby rfl rfl d6_7 (pc' := 8) rfl ?_
  refine own_getF X2 hx hby hZ hown (host := "") (Or.inl (hw _ (List.mem_of_getElem? (i := 13) rfl))) Via.refl eH2 F_o0_position d6_8 (pc' := 11) rfl (fun T3 X3 eH3 => ?_)
  refine own_iloadN X3 hx hby rfl d6_11 (pc' := 12) rfl ?_
  refine own_iloadN X3 hx hby rfl d6_12 (pc' := 13) rfl ?_
  refine own_iastore X3 hx hby hZ eH3 V_position_o0 (own_rg0 rg_p2) (n := p2.toNatClampNeg) rfl (by rw [List.length_map]; exact own_rgl rg_p2 hl_P) d6_13 (pc' := 14) rfl (fun T4 h4 X4 eH4 W4 => ?_)
  replace E_o0 := E_o0.wr W4
  replace F_o0_heap := F_o0_heap.other W4 (Or.inl ne_o0_position_o0)
  replace F_o0_position := F_o0_position.other W4 (Or.inl ne_o0_position_o0)
  replace V_heap_o0 := V_heap_o0.other W4 (Ne.symm ne_position_o0_heap_o0)
  have N4 := Fr.snoc X4 N2 g_position_o0
  replace K0 := K0.wr W4 (Or.inl (by simp))
  replace Z0 := Nat.le_trans Z0 (Nat.le_of_eq W4.size.symm)
  have hl5 : (P.set p2.toNatClampNeg (1 : Int32)).length = 4 := by rw [List.length_set]; exact hl_P
  replace V_position_o0 : Ary tr Z h4 position_o0 .int ((P.set p2.toNatClampNeg (1 : Int32)).map Value.int) := by rw [List.map_set]; exact V_position_o0.set W4
  exact own_retV X4 hx hby Bd.notSynchronized Bd.returns d6_14 (by decide) (by decide) eH4 ⟨rfl, N4, K0, V_heap_o0, V_position_o0⟩
theorem ef62 (m : MethodId) (x0 : Addr) (x2 : Int32) : entryFrame m #[(.ref x0), (.int (2 : Int32)), (.int x2)] 3 = mkF m 0 #[.val (.ref x0), .val (.int (2 : Int32)), .val (.int x2)] [] := by first | (simp [entryFrame, mkF, argsToLocals, Value.category]; done) | rfl
def Q62 (Z : State) (o0 : Addr) (p2 : Int32) (heap_o0 : Addr) (position_o0 : Addr) (y0 : Int32) (y1 : Int32) (y2 : Int32) (y3 : Int32) (P : List Int32) (h0 : Heap) (n0 : Nat) (v : Option Value) (h : Heap) (L : List Loc) : Prop := v = none ∧ Fr n0 L ∧ Keep h0 h [heap_o0, position_o0] ∧ Ary tr Z h heap_o0 .int [(.int y0), (.int y1), (.int p2), (.int y3)] ∧ Ary tr Z h position_o0 .int ((P.set p2.toNatClampNeg (2 : Int32)).map Value.int)
set_option maxRecDepth 65536 in
set_option maxHeartbeats 40000000 in
theorem rm62 (l : Launch) (Z : State) (a0 : Array Value) (hw : ∀ d ∈ tables_1, d.before a0 Z = true) (ws : List Jvm.Cond) (o0 : Addr) (p2 : Int32) (heap_o0 : Addr) (position_o0 : Addr) (y0 : Int32) (y1 : Int32) (y2 : Int32) (y3 : Int32) (P : List Int32) (h0 : Heap) (n0 : Nat) (Z0 : n0 ≤ h0.size) (E_o0 : Exa Z h0 o0 "com/example/cross_town/crosstown/solve/NodeHeap") (F_o0_heap : Fld Z h0 o0 "com/example/cross_town/crosstown/solve/NodeHeap" "heap" "[I" (.ref heap_o0)) (F_o0_position : Fld Z h0 o0 "com/example/cross_town/crosstown/solve/NodeHeap" "position" "[I" (.ref position_o0)) (V_heap_o0 : Ary tr Z h0 heap_o0 .int [(.int y0), (.int y1), (.int y2), (.int y3)]) (V_position_o0 : Ary tr Z h0 position_o0 .int (P.map Value.int)) (hl_P : (P.length = 4)) (rg_p2 : (0 ≤ p2.toInt ∧ p2.toInt < 4)) (g_heap_o0 : n0 ≤ heap_o0) (ne_o0_heap_o0 : o0 ≠ heap_o0) (ne_position_o0_heap_o0 : position_o0 ≠ heap_o0) (g_position_o0 : n0 ≤ position_o0) (ne_o0_position_o0 : o0 ≠ position_o0) :
    MetFree l (⟨"com/example/cross_town/crosstown/solve/NodeHeap", "place", "(II)V"⟩ : MethodName) (head1 (Jvm.Cond.code (⟨"com/example/cross_town/crosstown/solve/NodeHeap", "place", "(II)V"⟩ : MethodName) prog_33_method_7_code 3 none :: ws) ({ frames := 0, cells := 0, slots := 0, locals := 0 } : Room)) (fun a U => a = #[(.ref o0), (.int (2 : Int32)), (.int p2)] ∧ Z.Warmed39 U.vm ∧ U.heap = h0) (fun _ _ _ _ _ => True) (fun _ U o U' => ∃ v L, o = .returned v ∧ Q62 Z o0 p2 heap_o0 position_o0 y0 y1 y2 y3 P h0 n0 v U'.heap L ∧ FrameEnd U o U' L ({ frames := 0, cells := 0, slots := 0, locals := 0 } : Room).cells ({ frames := 0, cells := 0, slots := 0, locals := 0 } : Room).slots) := by
  refine MetFree.of_bodySF (plainFor_of_name pn_com_example_cross_town_crosstown_solve_NodeHeap) hisR ?_
  intro p e s m args below meth c s₁ Bd hml0 hP hK
  obtain ⟨rfl, hZ, hh⟩ := hP
  have hx := Bd.exec
  have hby := Bd.bytes
  have hml : c.maxLocals = 3 := hml0
  have hown : s.vm.findClass "com/example/cross_town/crosstown/solve/NodeHeap" = some m.cls := findClass_of_methodNamed Bd.named
  have hnm := (name_of_methodNamed Bd.named Bd.method).1
  have X0 : Stand p l e ({ frames := 0, cells := 0, slots := 0, locals := 0 } : Room) s m #[(.ref o0), (.int (2 : Int32)), (.int p2)] below meth c s₁ [] 0 0 := Stand.of_body Bd
  have eH0 : s₁.heap = h0 := by rw [← hh, Bd.state]; rfl
  have N0 := Fr.nil n0
  have K0 := Keep.refl h0 [heap_o0, position_o0]
  show Gt p.tables e below (fun o U' => ∃ v L, o = .returned v ∧ Q62 Z o0 p2 heap_o0 position_o0 y0 y1 y2 y3 P h0 n0 v U'.heap L ∧ FrameEnd s o U' L ({ frames := 0, cells := 0, slots := 0, locals := 0 } : Room).cells ({ frames := 0, cells := 0, slots := 0, locals := 0 } : Room).slots) _
  refine own_cast (ef62 m o0 p2) ?_
  refine own_aloadN X0 hx hby rfl rfl d6_0 (pc' := 1) rfl ?_
  refine own_getF X0 hx hby hZ hown (host := "") (Or.inl (hw _ (List.mem_of_getElem? (i := 11) rfl))) Via.refl eH0 F_o0_heap d6_1 (pc' := 4) rfl (fun T1 X1 eH1 => ?_)
  refine own_iloadN X1 hx hby rfl d6_4 (pc' := 5) rfl ?_
  refine own_iloadN X1 hx hby rfl d6_5 (pc' := 6) rfl ?_
  refine own_iastore X1 hx hby hZ eH1 V_heap_o0 (by decide) (n := 2) (by decide) (of_decide_eq_true rfl) d6_6 (pc' := 7) rfl (fun T2 h2 X2 eH2 W2 => ?_)
  replace E_o0 := E_o0.wr W2
  replace F_o0_heap := F_o0_heap.other W2 (Or.inl ne_o0_heap_o0)
  replace F_o0_position := F_o0_position.other W2 (Or.inl ne_o0_heap_o0)
  replace V_position_o0 := V_position_o0.other W2 ne_position_o0_heap_o0
  have N2 := Fr.snoc X2 N0 g_heap_o0
  replace K0 := K0.wr W2 (Or.inl (by simp))
  replace Z0 := Nat.le_trans Z0 (Nat.le_of_eq W2.size.symm)
  replace V_heap_o0 : Ary tr Z h2 heap_o0 .int [(.int y0), (.int y1), (.int p2), (.int y3)] := V_heap_o0.set W2
  refine own_aloadN X2 hx hby rfl rfl d6_7 (pc' := 8) rfl ?_
  refine own_getF X2 hx hby hZ hown (host := "") (Or.inl (hw _ (List.mem_of_getElem? (i := 13) rfl))) Via.refl eH2 F_o0_position d6_8 (pc' := 11) rfl (fun T3 X3 eH3 => ?_)
  refine own_iloadN X3 hx hby rfl d6_11 (pc' := 12) rfl ?_
  refine own_iloadN X3 hx hby rfl d6_12 (pc' := 13) rfl ?_
  refine own_iastore X3 hx hby hZ eH3 V_position_o0 (own_rg0 rg_p2) (n := p2.toNatClampNeg) rfl (by rw [List.length_map]; exact own_rgl rg_p2 hl_P) d6_13 (pc' := 14) rfl (fun T4 h4 X4 eH4 W4 => ?_)
  replace E_o0 := E_o0.wr W4
  replace F_o0_heap := F_o0_heap.other W4 (Or.inl ne_o0_position_o0)
  replace F_o0_position := F_o0_position.other W4 (Or.inl ne_o0_position_o0)
  replace V_heap_o0 := V_heap_o0.other W4 (Ne.symm ne_position_o0_heap_o0)
  have N4 := Fr.snoc X4 N2 g_position_o0
  replace K0 := K0.wr W4 (Or.inl (by simp))
  replace Z0 := Nat.le_trans Z0 (Nat.le_of_eq W4.size.symm)
  have hl5 : (P.set p2.toNatClampNeg (2 : Int32)).length = 4 := by rw [List.length_set]; exact hl_P
  replace V_position_o0 : Ary tr Z h4 position_o0 .int ((P.set p2.toNatClampNeg (2 : Int32)).map Value.int) := by rw [List.map_set]; exact V_position_o0.set W4
  exact own_retV X4 hx hby Bd.notSynchronized Bd.returns d6_14 (by decide) (by decide) eH4 ⟨rfl, N4, K0, V_heap_o0, V_position_o0⟩
theorem ef63 (m : MethodId) (x0 : Addr) (x2 : Int32) : entryFrame m #[(.ref x0), (.int (3 : Int32)), (.int x2)] 3 = mkF m 0 #[.val (.ref x0), .val (.int (3 : Int32)), .val (.int x2)] [] := by first | (simp [entryFrame, mkF, argsToLocals, Value.category]; done) | rfl
def Q63 (Z : State) (o0 : Addr) (p2 : Int32) (heap_o0 : Addr) (position_o0 : Addr) (y0 : Int32) (y1 : Int32) (y2 : Int32) (y3 : Int32) (P : List Int32) (h0 : Heap) (n0 : Nat) (v : Option Value) (h : Heap) (L : List Loc) : Prop := v = none ∧ Fr n0 L ∧ Keep h0 h [heap_o0, position_o0] ∧ Ary tr Z h heap_o0 .int [(.int y0), (.int y1), (.int y2), (.int p2)] ∧ Ary tr Z h position_o0 .int ((P.set p2.toNatClampNeg (3 : Int32)).map Value.int)
set_option maxRecDepth 65536 in
set_option maxHeartbeats 40000000 in
theorem rm63 (l : Launch) (Z : State) (a0 : Array Value) (hw : ∀ d ∈ tables_1, d.before a0 Z = true) (ws : List Jvm.Cond) (o0 : Addr) (p2 : Int32) (heap_o0 : Addr) (position_o0 : Addr) (y0 : Int32) (y1 : Int32) (y2 : Int32) (y3 : Int32) (P : List Int32) (h0 : Heap) (n0 : Nat) (Z0 : n0 ≤ h0.size) (E_o0 : Exa Z h0 o0 "com/example/cross_town/crosstown/solve/NodeHeap") (F_o0_heap : Fld Z h0 o0 "com/example/cross_town/crosstown/solve/NodeHeap" "heap" "[I" (.ref heap_o0)) (F_o0_position : Fld Z h0 o0 "com/example/cross_town/crosstown/solve/NodeHeap" "position" "[I" (.ref position_o0)) (V_heap_o0 : Ary tr Z h0 heap_o0 .int [(.int y0), (.int y1), (.int y2), (.int y3)]) (V_position_o0 : Ary tr Z h0 position_o0 .int (P.map Value.int)) (hl_P : (P.length = 4)) (rg_p2 : (0 ≤ p2.toInt ∧ p2.toInt < 4)) (g_heap_o0 : n0 ≤ heap_o0) (ne_o0_heap_o0 : o0 ≠ heap_o0) (ne_position_o0_heap_o0 : position_o0 ≠ heap_o0) (g_position_o0 : n0 ≤ position_o0) (ne_o0_position_o0 : o0 ≠ position_o0) :
    MetFree l (⟨"com/example/cross_town/crosstown/solve/NodeHeap", "place", "(II)V"⟩ : MethodName) (head1 (Jvm.Cond.code (⟨"com/example/cross_town/crosstown/solve/NodeHeap", "place", "(II)V"⟩ : MethodName) prog_33_method_7_code 3 none :: ws) ({ frames := 0, cells := 0, slots := 0, locals := 0 } : Room)) (fun a U => a = #[(.ref o0), (.int (3 : Int32)), (.int p2)] ∧ Z.Warmed39 U.vm ∧ U.heap = h0) (fun _ _ _ _ _ => True) (fun _ U o U' => ∃ v L, o = .returned v ∧ Q63 Z o0 p2 heap_o0 position_o0 y0 y1 y2 y3 P h0 n0 v U'.heap L ∧ FrameEnd U o U' L ({ frames := 0, cells := 0, slots := 0, locals := 0 } : Room).cells ({ frames := 0, cells := 0, slots := 0, locals := 0 } : Room).slots) := by
  refine MetFree.of_bodySF (plainFor_of_name pn_com_example_cross_town_crosstown_solve_NodeHeap) hisR ?_
  intro p e s m args below meth c s₁ Bd hml0 hP hK
  obtain ⟨rfl, hZ, hh⟩ := hP
  have hx := Bd.exec
  have hby := Bd.bytes
  have hml : c.maxLocals = 3 := hml0
  have hown : s.vm.findClass "com/example/cross_town/crosstown/solve/NodeHeap" = some m.cls := findClass_of_methodNamed Bd.named
  have hnm := (name_of_methodNamed Bd.named Bd.method).1
  have X0 : Stand p l e ({ frames := 0, cells := 0, slots := 0, locals := 0 } : Room) s m #[(.ref o0), (.int (3 : Int32)), (.int p2)] below meth c s₁ [] 0 0 := Stand.of_body Bd
  have eH0 : s₁.heap = h0 := by rw [← hh, Bd.state]; rfl
  have N0 := Fr.nil n0
  have K0 := Keep.refl h0 [heap_o0, position_o0]
  show Gt p.tables e below (fun o U' => ∃ v L, o = .returned v ∧ Q63 Z o0 p2 heap_o0 position_o0 y0 y1 y2 y3 P h0 n0 v U'.heap L ∧ FrameEnd s o U' L ({ frames := 0, cells := 0, slots := 0, locals := 0 } : Room).cells ({ frames := 0, cells := 0, slots := 0, locals := 0 } : Room).slots) _
  refine own_cast (ef63 m o0 p2) ?_
  refine own_aloadN X0 hx hby rfl rfl d6_0 (pc' := 1) rfl ?_
  refine own_getF X0 hx hby hZ hown (host := "") (Or.inl (hw _ (List.mem_of_getElem? (i := 11) rfl))) Via.refl eH0 F_o0_heap d6_1 (pc' := 4) rfl (fun T1 X1 eH1 => ?_)
  refine own_iloadN X1 hx hby rfl d6_4 (pc' := 5) rfl ?_
  refine own_iloadN X1 hx hby rfl d6_5 (pc' := 6) rfl ?_
  refine own_iastore X1 hx hby hZ eH1 V_heap_o0 (by decide) (n := 3) (by decide) (of_decide_eq_true rfl) d6_6 (pc' := 7) rfl (fun T2 h2 X2 eH2 W2 => ?_)
  replace E_o0 := E_o0.wr W2
  replace F_o0_heap := F_o0_heap.other W2 (Or.inl ne_o0_heap_o0)
  replace F_o0_position := F_o0_position.other W2 (Or.inl ne_o0_heap_o0)
  replace V_position_o0 := V_position_o0.other W2 ne_position_o0_heap_o0
  have N2 := Fr.snoc X2 N0 g_heap_o0
  replace K0 := K0.wr W2 (Or.inl (by simp))
  replace Z0 := Nat.le_trans Z0 (Nat.le_of_eq W2.size.symm)
  replace V_heap_o0 : Ary tr Z h2 heap_o0 .int [(.int y0), (.int y1), (.int y2), (.int p2)] := V_heap_o0.set W2
  refine own_aloadN X2 hx hby rfl rfl d6_7 (pc' := 8) rfl ?_
  refine own_getF X2 hx hby hZ hown (host := "") (Or.inl (hw _ (List.mem_of_getElem? (i := 13) rfl))) Via.refl eH2 F_o0_position d6_8 (pc' := 11) rfl (fun T3 X3 eH3 => ?_)
  refine own_iloadN X3 hx hby rfl d6_11 (pc' := 12) rfl ?_
  refine own_iloadN X3 hx hby rfl d6_12 (pc' := 13) rfl ?_
  refine own_iastore X3 hx hby hZ eH3 V_position_o0 (own_rg0 rg_p2) (n := p2.toNatClampNeg) rfl (by rw [List.length_map]; exact own_rgl rg_p2 hl_P) d6_13 (pc' := 14) rfl (fun T4 h4 X4 eH4 W4 => ?_)
  replace E_o0 := E_o0.wr W4
  replace F_o0_heap := F_o0_heap.other W4 (Or.inl ne_o0_position_o0)
  replace F_o0_position := F_o0_position.other W4 (Or.inl ne_o0_position_o0)
  replace V_heap_o0 := V_heap_o0.other W4 (Ne.symm ne_position_o0_heap_o0)
  have N4 := Fr.snoc X4 N2 g_position_o0
  replace K0 := K0.wr W4 (Or.inl (by simp))
  replace Z0 := Nat.le_trans Z0 (Nat.le_of_eq W4.size.symm)
  have hl5 : (P.set p2.toNatClampNeg (3 : Int32)).length = 4 := by rw [List.length_set]; exact hl_P
  replace V_position_o0 : Ary tr Z h4 position_o0 .int ((P.set p2.toNatClampNeg (3 : Int32)).map Value.int) := by rw [List.map_set]; exact V_position_o0.set W4
  exact own_retV X4 hx hby Bd.notSynchronized Bd.returns d6_14 (by decide) (by decide) eH4 ⟨rfl, N4, K0, V_heap_o0, V_position_o0⟩
theorem ef5n0 (m : MethodId) (x0 : Addr) (x2 : Int32) : entryFrame m #[(.ref x0), (.int (0 : Int32)), (.int x2)] 5 = mkF m 0 #[.val (.ref x0), .val (.int (0 : Int32)), .val (.int x2), .unset, .unset] [] := by first | (simp [entryFrame, mkF, argsToLocals, Value.category]; done) | rfl
def Q5n0 (Z : State) (o0 : Addr) (p2 : Int32) (heap_o0 : Addr) (position_o0 : Addr) (key_o0 : Addr) (y0 : Int32) (y1 : Int32) (y2 : Int32) (y3 : Int32) (P : List Int32) (K : List UInt64) (h0 : Heap) (n0 : Nat) (v : Option Value) (h : Heap) (L : List Loc) : Prop := v = none ∧ Fr n0 L ∧ Keep h0 h [position_o0, heap_o0] ∧ Ary tr Z h position_o0 .int ((P.set p2.toNatClampNeg (0 : Int32)).map Value.int) ∧ Ary tr Z h heap_o0 .int [(.int p2), (.int y1), (.int y2), (.int y3)] ∧ (Hp1 p2 (P.set p2.toNatClampNeg (0 : Int32)) K) ∧ (∀ z : Int32, (0 ≤ z.toInt ∧ z.toInt < 4) → ¬ p2.toInt = z.toInt → pv P z = -1 → pv (P.set p2.toNatClampNeg (0 : Int32)) z = -1)
set_option maxRecDepth 65536 in
set_option maxHeartbeats 40000000 in
theorem rm5n0 (l : Launch) (Z : State) (a0 : Array Value) (hw : ∀ d ∈ tables_1, d.before a0 Z = true) (ws : List Jvm.Cond) (o0 : Addr) (p2 : Int32) (heap_o0 : Addr) (position_o0 : Addr) (key_o0 : Addr) (y0 : Int32) (y1 : Int32) (y2 : Int32) (y3 : Int32) (P : List Int32) (K : List UInt64) (h0 : Heap) (n0 : Nat) (Z0 : n0 ≤ h0.size) (E_o0 : Exa Z h0 o0 "com/example/cross_town/crosstown/solve/NodeHeap") (F_o0_heap : Fld Z h0 o0 "com/example/cross_town/crosstown/solve/NodeHeap" "heap" "[I" (.ref heap_o0)) (F_o0_position : Fld Z h0 o0 "com/example/cross_town/crosstown/solve/NodeHeap" "position" "[I" (.ref position_o0)) (F_o0_key : Fld Z h0 o0 "com/example/cross_town/crosstown/solve/NodeHeap" "key" "[D" (.ref key_o0)) (V_heap_o0 : Ary tr Z h0 heap_o0 .int [(.int y0), (.int y1), (.int y2), (.int y3)]) (V_position_o0 : Ary tr Z h0 position_o0 .int (P.map Value.int)) (hl_P : (P.length = 4)) (V_key_o0 : Ary tr Z h0 key_o0 .double (K.map Value.double)) (hl_K : (K.length = 4)) (rg_p2 : (0 ≤ p2.toInt ∧ p2.toInt < 4)) (nnk : (NNk K)) (pv_p2 : (pv P p2 = -1)) (g_heap_o0 : n0 ≤ heap_o0) (ne_o0_heap_o0 : o0 ≠ heap_o0) (ne_position_o0_heap_o0 : position_o0 ≠ heap_o0) (g_position_o0 : n0 ≤ position_o0) (ne_o0_position_o0 : o0 ≠ position_o0) (ne_key_o0_position_o0 : key_o0 ≠ position_o0) (ne_key_o0_heap_o0 : key_o0 ≠ heap_o0) :
    MetFree l (⟨"com/example/cross_town/crosstown/solve/NodeHeap", "siftUp", "(II)V"⟩ : MethodName) (head1 (Jvm.Cond.code (⟨"com/example/cross_town/crosstown/solve/NodeHeap", "siftUp", "(II)V"⟩ : MethodName) prog_33_method_5_code 5 none :: ws) ({ frames := 1, cells := 0, slots := 0, locals := 14 } : Room)) (fun a U => a = #[(.ref o0), (.int (0 : Int32)), (.int p2)] ∧ Z.Warmed39 U.vm ∧ U.heap = h0) (fun _ _ _ _ _ => True) (fun _ U o U' => ∃ v L, o = .returned v ∧ Q5n0 Z o0 p2 heap_o0 position_o0 key_o0 y0 y1 y2 y3 P K h0 n0 v U'.heap L ∧ FrameEnd U o U' L ({ frames := 1, cells := 0, slots := 0, locals := 14 } : Room).cells ({ frames := 1, cells := 0, slots := 0, locals := 14 } : Room).slots) := by
  refine MetFree.of_bodySF (plainFor_of_name pn_com_example_cross_town_crosstown_solve_NodeHeap) hisR ?_
  intro p e s m args below meth c s₁ Bd hml0 hP hK
  obtain ⟨rfl, hZ, hh⟩ := hP
  have hx := Bd.exec
  have hby := Bd.bytes
  have hml : c.maxLocals = 5 := hml0
  have hown : s.vm.findClass "com/example/cross_town/crosstown/solve/NodeHeap" = some m.cls := findClass_of_methodNamed Bd.named
  have hnm := (name_of_methodNamed Bd.named Bd.method).1
  have X0 : Stand p l e ({ frames := 1, cells := 0, slots := 0, locals := 14 } : Room) s m #[(.ref o0), (.int (0 : Int32)), (.int p2)] below meth c s₁ [] 0 0 := Stand.of_body Bd
  have eH0 : s₁.heap = h0 := by rw [← hh, Bd.state]; rfl
  have N0 := Fr.nil n0
  have K0 := Keep.refl h0 [position_o0, heap_o0]
  show Gt p.tables e below (fun o U' => ∃ v L, o = .returned v ∧ Q5n0 Z o0 p2 heap_o0 position_o0 key_o0 y0 y1 y2 y3 P K h0 n0 v U'.heap L ∧ FrameEnd s o U' L ({ frames := 1, cells := 0, slots := 0, locals := 14 } : Room).cells ({ frames := 1, cells := 0, slots := 0, locals := 14 } : Room).slots) _
  refine own_cast (ef5n0 m o0 p2) ?_
  refine own_iloadN X0 hx hby rfl d5_0 (pc' := 1) rfl ?_
  refine own_istoreN X0 hx hby (L' := #[.val (.ref o0), .val (.int (0 : Int32)), .val (.int p2), .val (.int (0 : Int32)), .unset]) rfl d5_1 (pc' := 2) rfl ?_
  refine own_iloadN X0 hx hby rfl d5_2 (pc' := 3) rfl ?_
  refine own_ifT X0 hx hby d5_3 (by decide) (by decide) (pc' := 56) (by decide) ?_
  refine own_aloadN X0 hx hby rfl rfl d5_56 (pc' := 57) rfl ?_
  refine own_iloadN X0 hx hby rfl d5_57 (pc' := 58) rfl ?_
  refine own_iloadN X0 hx hby rfl d5_58 (pc' := 59) rfl ?_
  refine own_private X0 hx hby hZ (y := (⟨"com/example/cross_town/crosstown/solve/NodeHeap", "place", "(II)V"⟩ : MethodName)) (rest := []) hown (hw _ (List.mem_of_getElem? (i := 32) rfl)) (hw _ (List.mem_of_getElem? (i := 33) rfl)) (hw _ (List.mem_of_getElem? (i := 2) rfl)) (hw _ (List.mem_of_getElem? (i := 34) rfl)) (hw _ (List.mem_of_getElem? (i := 35) rfl)) (hw _ (List.mem_of_getElem? (i := 3) rfl)) (by decide) (rm60 l Z a0 hw [] o0 p2 heap_o0 position_o0 y0 y1 y2 y3 P h0 n0 Z0 E_o0 F_o0_heap F_o0_position V_heap_o0 V_position_o0 (by first | assumption | rfl | (simp only [List.length_set]; first | assumption | rfl)) rg_p2 g_heap_o0 ne_o0_heap_o0 ne_position_o0_heap_o0 g_position_o0 ne_o0_position_o0) eH0 (by rw [hml]; rfl) (a := o0) E_o0 (argsL := [(.int (0 : Int32)), (.int p2)]) rfl (lenOf pd_1 rfl) rfl d5_59 (pc' := 62) rfl (by decide) (W := 0) (Nat.le_of_eq rfl) (by decide) (by decide) (by decide) (fun T1 h1 Lc1 v1r X1 eH1 hQ1 => ?_)
  obtain ⟨rfl, Nq1, Kq1, gq1_0, gq1_1⟩ := hQ1
  have N1 := Fr.app N0 Nq1
  replace E_o0 := E_o0.keep Kq1
  replace F_o0_heap := F_o0_heap.keep Kq1 (ninS ne_o0_heap_o0 (ninS ne_o0_position_o0 nin0))
  replace F_o0_position := F_o0_position.keep Kq1 (ninS ne_o0_heap_o0 (ninS ne_o0_position_o0 nin0))
  replace F_o0_key := F_o0_key.keep Kq1 (ninS ne_o0_heap_o0 (ninS ne_o0_position_o0 nin0))
  replace V_key_o0 := V_key_o0.keep Kq1 (ninS ne_key_o0_heap_o0 (ninS ne_key_o0_position_o0 nin0))
  replace K0 := K0.trans Kq1 (allS (Or.inl (by simp)) (allS (Or.inl (by simp)) all0))
  have V_heap_o0 := gq1_0
  have hl2 : (P.set p2.toNatClampNeg (0 : Int32)).length = 4 := by (repeat' split) <;> (simp only [List.length_set]; first | assumption | rfl)
  have V_position_o0 := gq1_1
  replace Z0 := Nat.le_trans Z0 Kq1.1
  have HH : Hp1 p2 (P.set p2.toNatClampNeg (0 : Int32)) K := ⟨rg_p2, (by rw [own_pvs hl_P rg_p2 rg_p2, if_pos rfl]; first | done | decide)⟩
  have HA : ∀ z : Int32, (0 ≤ z.toInt ∧ z.toInt < 4) → ¬ p2.toInt = z.toInt → pv P z = -1 → pv (P.set p2.toNatClampNeg (0 : Int32)) z = -1 := fun z rgz hpz hz => (by rw [own_pvs hl_P rg_p2 rgz, if_neg hpz]; exact hz)
  exact own_retV X1 hx hby Bd.notSynchronized Bd.returns d5_62 (by decide) (by decide) eH1 ⟨rfl, N1, K0, V_position_o0, V_heap_o0, HH, HA⟩
theorem ef5n1 (m : MethodId) (x0 : Addr) (x2 : Int32) : entryFrame m #[(.ref x0), (.int (1 : Int32)), (.int x2)] 5 = mkF m 0 #[.val (.ref x0), .val (.int (1 : Int32)), .val (.int x2), .unset, .unset] [] := by first | (simp [entryFrame, mkF, argsToLocals, Value.category]; done) | rfl
def Q5n1 (Z : State) (o0 : Addr) (p2 : Int32) (heap_o0 : Addr) (position_o0 : Addr) (key_o0 : Addr) (y0 : Int32) (y1 : Int32) (y2 : Int32) (y3 : Int32) (P : List Int32) (K : List UInt64) (h0 : Heap) (n0 : Nat) (v : Option Value) (h : Heap) (L : List Loc) : Prop := v = none ∧ Fr n0 L ∧ Keep h0 h [position_o0, heap_o0] ∧ Ary tr Z h position_o0 .int ((if dle (K.getD y0.toNatClampNeg 0) (K.getD p2.toNatClampNeg 0) then (P.set p2.toNatClampNeg (1 : Int32)) else ((P.set y0.toNatClampNeg (1 : Int32)).set p2.toNatClampNeg (0 : Int32))).map Value.int) ∧ Ary tr Z h heap_o0 .int [(.int (if dle (K.getD y0.toNatClampNeg 0) (K.getD p2.toNatClampNeg 0) then y0 else p2)), (.int (if dle (K.getD y0.toNatClampNeg 0) (K.getD p2.toNatClampNeg 0) then p2 else y0)), (.int y2), (.int y3)] ∧ (Hp2 (if dle (K.getD y0.toNatClampNeg 0) (K.getD p2.toNatClampNeg 0) then y0 else p2) (if dle (K.getD y0.toNatClampNeg 0) (K.getD p2.toNatClampNeg 0) then p2 else y0) (if dle (K.getD y0.toNatClampNeg 0) (K.getD p2.toNatClampNeg 0) then (P.set p2.toNatClampNeg (1 : Int32)) else ((P.set y0.toNatClampNeg (1 : Int32)).set p2.toNatClampNeg (0 : Int32))) K) ∧ (∀ z : Int32, (0 ≤ z.toInt ∧ z.toInt < 4) → ¬ p2.toInt = z.toInt → pv P z = -1 → pv (if dle (K.getD y0.toNatClampNeg 0) (K.getD p2.toNatClampNeg 0) then (P.set p2.toNatClampNeg (1 : Int32)) else ((P.set y0.toNatClampNeg (1 : Int32)).set p2.toNatClampNeg (0 : Int32))) z = -1)
set_option maxRecDepth 65536 in
set_option maxHeartbeats 40000000 in
theorem rm5n1 (l : Launch) (Z : State) (a0 : Array Value) (hw : ∀ d ∈ tables_1, d.before a0 Z = true) (ws : List Jvm.Cond) (o0 : Addr) (p2 : Int32) (heap_o0 : Addr) (position_o0 : Addr) (key_o0 : Addr) (y0 : Int32) (y1 : Int32) (y2 : Int32) (y3 : Int32) (P : List Int32) (K : List UInt64) (h0 : Heap) (n0 : Nat) (Z0 : n0 ≤ h0.size) (E_o0 : Exa Z h0 o0 "com/example/cross_town/crosstown/solve/NodeHeap") (F_o0_heap : Fld Z h0 o0 "com/example/cross_town/crosstown/solve/NodeHeap" "heap" "[I" (.ref heap_o0)) (F_o0_position : Fld Z h0 o0 "com/example/cross_town/crosstown/solve/NodeHeap" "position" "[I" (.ref position_o0)) (F_o0_key : Fld Z h0 o0 "com/example/cross_town/crosstown/solve/NodeHeap" "key" "[D" (.ref key_o0)) (V_heap_o0 : Ary tr Z h0 heap_o0 .int [(.int y0), (.int y1), (.int y2), (.int y3)]) (V_position_o0 : Ary tr Z h0 position_o0 .int (P.map Value.int)) (hl_P : (P.length = 4)) (V_key_o0 : Ary tr Z h0 key_o0 .double (K.map Value.double)) (hl_K : (K.length = 4)) (rg_p2 : (0 ≤ p2.toInt ∧ p2.toInt < 4)) (nnk : (NNk K)) (pv_p2 : (pv P p2 = -1)) (rg_y0 : (0 ≤ y0.toInt ∧ y0.toInt < 4)) (pv_y0 : (pv P y0 = 0)) (g_heap_o0 : n0 ≤ heap_o0) (ne_o0_heap_o0 : o0 ≠ heap_o0) (ne_position_o0_heap_o0 : position_o0 ≠ heap_o0) (g_position_o0 : n0 ≤ position_o0) (ne_o0_position_o0 : o0 ≠ position_o0) (ne_key_o0_position_o0 : key_o0 ≠ position_o0) (ne_key_o0_heap_o0 : key_o0 ≠ heap_o0) :
    MetFree l (⟨"com/example/cross_town/crosstown/solve/NodeHeap", "siftUp", "(II)V"⟩ : MethodName) (head1 (Jvm.Cond.code (⟨"com/example/cross_town/crosstown/solve/NodeHeap", "siftUp", "(II)V"⟩ : MethodName) prog_33_method_5_code 5 none :: ws) ({ frames := 1, cells := 0, slots := 0, locals := 14 } : Room)) (fun a U => a = #[(.ref o0), (.int (1 : Int32)), (.int p2)] ∧ Z.Warmed39 U.vm ∧ U.heap = h0) (fun _ _ _ _ _ => True) (fun _ U o U' => ∃ v L, o = .returned v ∧ Q5n1 Z o0 p2 heap_o0 position_o0 key_o0 y0 y1 y2 y3 P K h0 n0 v U'.heap L ∧ FrameEnd U o U' L ({ frames := 1, cells := 0, slots := 0, locals := 14 } : Room).cells ({ frames := 1, cells := 0, slots := 0, locals := 14 } : Room).slots) := by
  refine MetFree.of_bodySF (plainFor_of_name pn_com_example_cross_town_crosstown_solve_NodeHeap) hisR ?_
  intro p e s m args below meth c s₁ Bd hml0 hP hK
  obtain ⟨rfl, hZ, hh⟩ := hP
  have hx := Bd.exec
  have hby := Bd.bytes
  have hml : c.maxLocals = 5 := hml0
  have hown : s.vm.findClass "com/example/cross_town/crosstown/solve/NodeHeap" = some m.cls := findClass_of_methodNamed Bd.named
  have hnm := (name_of_methodNamed Bd.named Bd.method).1
  have X0 : Stand p l e ({ frames := 1, cells := 0, slots := 0, locals := 14 } : Room) s m #[(.ref o0), (.int (1 : Int32)), (.int p2)] below meth c s₁ [] 0 0 := Stand.of_body Bd
  have eH0 : s₁.heap = h0 := by rw [← hh, Bd.state]; rfl
  have N0 := Fr.nil n0
  have K0 := Keep.refl h0 [position_o0, heap_o0]
  show Gt p.tables e below (fun o U' => ∃ v L, o = .returned v ∧ Q5n1 Z o0 p2 heap_o0 position_o0 key_o0 y0 y1 y2 y3 P K h0 n0 v U'.heap L ∧ FrameEnd s o U' L ({ frames := 1, cells := 0, slots := 0, locals := 14 } : Room).cells ({ frames := 1, cells := 0, slots := 0, locals := 14 } : Room).slots) _
  refine own_cast (ef5n1 m o0 p2) ?_
  have d_y0_p2 : ¬ y0.toInt = p2.toInt := own_pne pv_y0 pv_p2 (by decide)
  have d_p2_y0 : ¬ p2.toInt = y0.toInt := own_pne pv_p2 pv_y0 (by decide)
  refine own_iloadN X0 hx hby rfl d5_0 (pc' := 1) rfl ?_
  refine own_istoreN X0 hx hby (L' := #[.val (.ref o0), .val (.int (1 : Int32)), .val (.int p2), .val (.int (1 : Int32)), .unset]) rfl d5_1 (pc' := 2) rfl ?_
  refine own_iloadN X0 hx hby rfl d5_2 (pc' := 3) rfl ?_
  refine own_ifF X0 hx hby d5_3 (by decide) (pc' := 6) rfl ?_
  refine own_iloadN X0 hx hby rfl d5_6 (pc' := 7) rfl ?_
  refine own_iconst X0 hx hby (v := (1 : Int32)) (by decide) d5_7 (pc' := 8) rfl ?_
  refine own_isub X0 hx hby (v := (0 : Int32)) (by decide) d5_8 (pc' := 9) rfl ?_
  refine own_iconst X0 hx hby (v := (2 : Int32)) (by decide) d5_9 (pc' := 10) rfl ?_
  refine own_idiv X0 hx hby (by decide) (v := (0 : Int32)) (by decide) d5_10 (pc' := 11) rfl ?_
  refine own_istore X0 hx hby (L' := #[.val (.ref o0), .val (.int (1 : Int32)), .val (.int p2), .val (.int (1 : Int32)), .val (.int (0 : Int32))]) rfl d5_11 (pc' := 13) rfl ?_
  refine own_aloadN X0 hx hby rfl rfl d5_13 (pc' := 14) rfl ?_
  refine own_getF X0 hx hby hZ hown (host := "") (Or.inl (hw _ (List.mem_of_getElem? (i := 15) rfl))) Via.refl eH0 F_o0_key d5_14 (pc' := 17) rfl (fun T1 X1 eH1 => ?_)
  refine own_aloadN X1 hx hby rfl rfl d5_17 (pc' := 18) rfl ?_
  refine own_getF X1 hx hby hZ hown (host := "") (Or.inl (hw _ (List.mem_of_getElem? (i := 11) rfl))) Via.refl eH1 F_o0_heap d5_18 (pc' := 21) rfl (fun T2 X2 eH2 => ?_)
  refine own_iload X2 hx hby rfl d5_21 (pc' := 23) rfl ?_
  refine own_iaload X2 hx hby hZ eH2 V_heap_o0 (by decide) (v := (.int y0)) rfl d5_23 (pc' := 24) rfl ?_
  refine own_daload X2 hx hby hZ eH2 V_key_o0 (own_rg0 rg_y0) (v := (.double (K.getD y0.toNatClampNeg 0))) (own_lget (own_rgl rg_y0 hl_K)) d5_24 (pc' := 25) rfl ?_
  refine own_aloadN X2 hx hby rfl rfl d5_25 (pc' := 26) rfl ?_
  refine own_getF X2 hx hby hZ hown (host := "") (Or.inl (hw _ (List.mem_of_getElem? (i := 15) rfl))) Via.refl eH2 F_o0_key d5_26 (pc' := 29) rfl (fun T3 X3 eH3 => ?_)
  refine own_iloadN X3 hx hby rfl d5_29 (pc' := 30) rfl ?_
  refine own_daload X3 hx hby hZ eH3 V_key_o0 (own_rg0 rg_p2) (v := (.double (K.getD p2.toNatClampNeg 0))) (own_lget (own_rgl rg_p2 hl_K)) d5_30 (pc' := 31) rfl ?_
  refine own_dcmp X3 hx hby rfl d5_31 (pc' := 32) rfl ?_
  by_cases hc4 : dle (K.getD y0.toNatClampNeg 0) (K.getD p2.toNatClampNeg 0)
  · refine own_ifF X3 hx hby d5_32 (own_dg_gt_p hc4) (pc' := 35) rfl ?_
    refine own_goto X3 hx hby d5_35 (by decide) (pc' := 56) (by decide) ?_
    refine own_aloadN X3 hx hby rfl rfl d5_56 (pc' := 57) rfl ?_
    refine own_iloadN X3 hx hby rfl d5_57 (pc' := 58) rfl ?_
    refine own_iloadN X3 hx hby rfl d5_58 (pc' := 59) rfl ?_
    refine own_private X3 hx hby hZ (y := (⟨"com/example/cross_town/crosstown/solve/NodeHeap", "place", "(II)V"⟩ : MethodName)) (rest := []) hown (hw _ (List.mem_of_getElem? (i := 32) rfl)) (hw _ (List.mem_of_getElem? (i := 33) rfl)) (hw _ (List.mem_of_getElem? (i := 2) rfl)) (hw _ (List.mem_of_getElem? (i := 34) rfl)) (hw _ (List.mem_of_getElem? (i := 35) rfl)) (hw _ (List.mem_of_getElem? (i := 3) rfl)) (by decide) (rm61 l Z a0 hw [] o0 p2 heap_o0 position_o0 y0 y1 y2 y3 P h0 n0 Z0 E_o0 F_o0_heap F_o0_position V_heap_o0 V_position_o0 (by first | assumption | rfl | (simp only [List.length_set]; first | assumption | rfl)) rg_p2 g_heap_o0 ne_o0_heap_o0 ne_position_o0_heap_o0 g_position_o0 ne_o0_position_o0) eH3 (by rw [hml]; rfl) (a := o0) E_o0 (argsL := [(.int (1 : Int32)), (.int p2)]) rfl (lenOf pd_1 rfl) rfl d5_59 (pc' := 62) rfl (by decide) (W := 0) (Nat.le_of_eq rfl) (by decide) (by decide) (by decide) (fun T5 h5 Lc5 v5r X5 eH5 hQ5 => ?_)
    obtain ⟨rfl, Nq5, Kq5, gq5_0, gq5_1⟩ := hQ5
    have N5 := Fr.app N0 Nq5
    replace E_o0 := E_o0.keep Kq5
    replace F_o0_heap := F_o0_heap.keep Kq5 (ninS ne_o0_heap_o0 (ninS ne_o0_position_o0 nin0))
    replace F_o0_position := F_o0_position.keep Kq5 (ninS ne_o0_heap_o0 (ninS ne_o0_position_o0 nin0))
    replace F_o0_key := F_o0_key.keep Kq5 (ninS ne_o0_heap_o0 (ninS ne_o0_position_o0 nin0))
    replace V_key_o0 := V_key_o0.keep Kq5 (ninS ne_key_o0_heap_o0 (ninS ne_key_o0_position_o0 nin0))
    replace K0 := K0.trans Kq5 (allS (Or.inl (by simp)) (allS (Or.inl (by simp)) all0))
    have V_heap_o0 := gq5_0
    have hl6 : (P.set p2.toNatClampNeg (1 : Int32)).length = 4 := by (repeat' split) <;> (simp only [List.length_set]; first | assumption | rfl)
    have V_position_o0 := gq5_1
    replace Z0 := Nat.le_trans Z0 Kq5.1
    have o0 := (own_kle nnk y0 p2).mp hc4
    have HH : Hp2 y0 p2 (P.set p2.toNatClampNeg (1 : Int32)) K := ⟨rg_y0, rg_p2, (by rw [own_pvs hl_P rg_p2 rg_y0, if_neg d_p2_y0]; exact pv_y0), (by rw [own_pvs hl_P rg_p2 rg_p2, if_pos rfl]; first | done | decide), (by omega)⟩
    have HA : ∀ z : Int32, (0 ≤ z.toInt ∧ z.toInt < 4) → ¬ p2.toInt = z.toInt → pv P z = -1 → pv (P.set p2.toNatClampNeg (1 : Int32)) z = -1 := fun z rgz hpz hz => (by rw [own_pvs hl_P rg_p2 rgz, if_neg hpz]; exact hz)
    exact own_retV X5 hx hby Bd.notSynchronized Bd.returns d5_62 (by decide) (by decide) eH5 ⟨rfl, N5, K0, (by simp only [if_pos hc4]; exact V_position_o0), (by simp only [if_pos hc4]; exact V_heap_o0), (by simp only [if_pos hc4]; exact HH), (by simp only [if_pos hc4]; exact HA)⟩
  · refine own_ifT X3 hx hby d5_32 (own_dg_gt_n hc4) (by decide) (pc' := 38) (by decide) ?_
    refine own_aloadN X3 hx hby rfl rfl d5_38 (pc' := 39) rfl ?_
    refine own_iloadN X3 hx hby rfl d5_39 (pc' := 40) rfl ?_
    refine own_aloadN X3 hx hby rfl rfl d5_40 (pc' := 41) rfl ?_
    refine own_getF X3 hx hby hZ hown (host := "") (Or.inl (hw _ (List.mem_of_getElem? (i := 11) rfl))) Via.refl eH3 F_o0_heap d5_41 (pc' := 44) rfl (fun T7 X7 eH7 => ?_)
    refine own_iload X7 hx hby rfl d5_44 (pc' := 46) rfl ?_
    refine own_iaload X7 hx hby hZ eH7 V_heap_o0 (by decide) (v := (.int y0)) rfl d5_46 (pc' := 47) rfl ?_
    refine own_private X7 hx hby hZ (y := (⟨"com/example/cross_town/crosstown/solve/NodeHeap", "place", "(II)V"⟩ : MethodName)) (rest := []) hown (hw _ (List.mem_of_getElem? (i := 32) rfl)) (hw _ (List.mem_of_getElem? (i := 33) rfl)) (hw _ (List.mem_of_getElem? (i := 2) rfl)) (hw _ (List.mem_of_getElem? (i := 34) rfl)) (hw _ (List.mem_of_getElem? (i := 35) rfl)) (hw _ (List.mem_of_getElem? (i := 3) rfl)) (by decide) (rm61 l Z a0 hw [] o0 y0 heap_o0 position_o0 y0 y1 y2 y3 P h0 n0 Z0 E_o0 F_o0_heap F_o0_position V_heap_o0 V_position_o0 (by first | assumption | rfl | (simp only [List.length_set]; first | assumption | rfl)) rg_y0 g_heap_o0 ne_o0_heap_o0 ne_position_o0_heap_o0 g_position_o0 ne_o0_position_o0) eH7 (by rw [hml]; rfl) (a := o0) E_o0 (argsL := [(.int (1 : Int32)), (.int y0)]) rfl (lenOf pd_1 rfl) rfl d5_47 (pc' := 50) rfl (by decide) (W := 0) (Nat.le_of_eq rfl) (by decide) (by decide) (by decide) (fun T8 h8 Lc8 v8r X8 eH8 hQ8 => ?_)
    obtain ⟨rfl, Nq8, Kq8, gq8_0, gq8_1⟩ := hQ8
    have N8 := Fr.app N0 Nq8
    replace E_o0 := E_o0.keep Kq8
    replace F_o0_heap := F_o0_heap.keep Kq8 (ninS ne_o0_heap_o0 (ninS ne_o0_position_o0 nin0))
    replace F_o0_position := F_o0_position.keep Kq8 (ninS ne_o0_heap_o0 (ninS ne_o0_position_o0 nin0))
    replace F_o0_key := F_o0_key.keep Kq8 (ninS ne_o0_heap_o0 (ninS ne_o0_position_o0 nin0))
    replace V_key_o0 := V_key_o0.keep Kq8 (ninS ne_key_o0_heap_o0 (ninS ne_key_o0_position_o0 nin0))
    replace K0 := K0.trans Kq8 (allS (Or.inl (by simp)) (allS (Or.inl (by simp)) all0))
    have V_heap_o0 := gq8_0
    have hl9 : (P.set y0.toNatClampNeg (1 : Int32)).length = 4 := by (repeat' split) <;> (simp only [List.length_set]; first | assumption | rfl)
    have V_position_o0 := gq8_1
    replace Z0 := Nat.le_trans Z0 Kq8.1
    refine own_iload X8 hx hby rfl d5_50 (pc' := 52) rfl ?_
    refine own_istoreN X8 hx hby (L' := #[.val (.ref o0), .val (.int (1 : Int32)), .val (.int p2), .val (.int (0 : Int32)), .val (.int (0 : Int32))]) rfl d5_52 (pc' := 53) rfl ?_
    refine own_goto X8 hx hby d5_53 (by decide) (pc' := 2) (by decide) ?_
    refine own_iloadN X8 hx hby rfl d5_2 (pc' := 3) rfl ?_
    refine own_ifT X8 hx hby d5_3 (by decide) (by decide) (pc' := 56) (by decide) ?_
    refine own_aloadN X8 hx hby rfl rfl d5_56 (pc' := 57) rfl ?_
    refine own_iloadN X8 hx hby rfl d5_57 (pc' := 58) rfl ?_
    refine own_iloadN X8 hx hby rfl d5_58 (pc' := 59) rfl ?_
    refine own_private X8 hx hby hZ (y := (⟨"com/example/cross_town/crosstown/solve/NodeHeap", "place", "(II)V"⟩ : MethodName)) (rest := []) hown (hw _ (List.mem_of_getElem? (i := 32) rfl)) (hw _ (List.mem_of_getElem? (i := 33) rfl)) (hw _ (List.mem_of_getElem? (i := 2) rfl)) (hw _ (List.mem_of_getElem? (i := 34) rfl)) (hw _ (List.mem_of_getElem? (i := 35) rfl)) (hw _ (List.mem_of_getElem? (i := 3) rfl)) (by decide) (rm60 l Z a0 hw [] o0 p2 heap_o0 position_o0 y0 y0 y2 y3 (P.set y0.toNatClampNeg (1 : Int32)) h8 n0 Z0 E_o0 F_o0_heap F_o0_position V_heap_o0 V_position_o0 (by first | assumption | rfl | (simp only [List.length_set]; first | assumption | rfl)) rg_p2 g_heap_o0 ne_o0_heap_o0 ne_position_o0_heap_o0 g_position_o0 ne_o0_position_o0) eH8 (by rw [hml]; rfl) (a := o0) E_o0 (argsL := [(.int (0 : Int32)), (.int p2)]) rfl (lenOf pd_1 rfl) rfl d5_59 (pc' := 62) rfl (by decide) (W := 0) (Nat.le_of_eq rfl) (by decide) (by decide) (by decide) (fun T10 h10 Lc10 v10r X10 eH10 hQ10 => ?_)
    obtain ⟨rfl, Nq10, Kq10, gq10_0, gq10_1⟩ := hQ10
    have N10 := Fr.app N8 Nq10
    replace E_o0 := E_o0.keep Kq10
    replace F_o0_heap := F_o0_heap.keep Kq10 (ninS ne_o0_heap_o0 (ninS ne_o0_position_o0 nin0))
    replace F_o0_position := F_o0_position.keep Kq10 (ninS ne_o0_heap_o0 (ninS ne_o0_position_o0 nin0))
    replace F_o0_key := F_o0_key.keep Kq10 (ninS ne_o0_heap_o0 (ninS ne_o0_position_o0 nin0))
    replace V_key_o0 := V_key_o0.keep Kq10 (ninS ne_key_o0_heap_o0 (ninS ne_key_o0_position_o0 nin0))
    replace K0 := K0.trans Kq10 (allS (Or.inl (by simp)) (allS (Or.inl (by simp)) all0))
    have V_heap_o0 := gq10_0
    have hl11 : ((P.set y0.toNatClampNeg (1 : Int32)).set p2.toNatClampNeg (0 : Int32)).length = 4 := by (repeat' split) <;> (simp only [List.length_set]; first | assumption | rfl)
    have V_position_o0 := gq10_1
    replace Z0 := Nat.le_trans Z0 Kq10.1
    have o0 := mt (own_kle nnk y0 p2).mpr hc4
    have HH : Hp2 p2 y0 ((P.set y0.toNatClampNeg (1 : Int32)).set p2.toNatClampNeg (0 : Int32)) K := ⟨rg_p2, rg_y0, (by rw [own_pvs (by simp only [List.length_set]; exact hl_P) rg_p2 rg_p2, if_pos rfl]; first | done | decide), (by rw [own_pvs (by simp only [List.length_set]; exact hl_P) rg_p2 rg_y0, if_neg d_p2_y0, own_pvs hl_P rg_y0 rg_y0, if_pos rfl]; first | done | decide), (by omega)⟩
    have HA : ∀ z : Int32, (0 ≤ z.toInt ∧ z.toInt < 4) → ¬ p2.toInt = z.toInt → pv P z = -1 → pv ((P.set y0.toNatClampNeg (1 : Int32)).set p2.toNatClampNeg (0 : Int32)) z = -1 := fun z rgz hpz hz => (by rw [own_pvs (by simp only [List.length_set]; exact hl_P) rg_p2 rgz, if_neg hpz, own_pvs hl_P rg_y0 rgz, if_neg (own_pne pv_y0 hz (by decide))]; exact hz)
    exact own_retV X10 hx hby Bd.notSynchronized Bd.returns d5_62 (by decide) (by decide) eH10 ⟨rfl, N10, K0, (by simp only [if_neg hc4]; exact V_position_o0), (by simp only [if_neg hc4]; exact V_heap_o0), (by simp only [if_neg hc4]; exact HH), (by simp only [if_neg hc4]; exact HA)⟩
theorem ef5n2 (m : MethodId) (x0 : Addr) (x2 : Int32) : entryFrame m #[(.ref x0), (.int (2 : Int32)), (.int x2)] 5 = mkF m 0 #[.val (.ref x0), .val (.int (2 : Int32)), .val (.int x2), .unset, .unset] [] := by first | (simp [entryFrame, mkF, argsToLocals, Value.category]; done) | rfl
def Q5n2 (Z : State) (o0 : Addr) (p2 : Int32) (heap_o0 : Addr) (position_o0 : Addr) (key_o0 : Addr) (y0 : Int32) (y1 : Int32) (y2 : Int32) (y3 : Int32) (P : List Int32) (K : List UInt64) (h0 : Heap) (n0 : Nat) (v : Option Value) (h : Heap) (L : List Loc) : Prop := v = none ∧ Fr n0 L ∧ Keep h0 h [position_o0, heap_o0] ∧ Ary tr Z h position_o0 .int ((if dle (K.getD y0.toNatClampNeg 0) (K.getD p2.toNatClampNeg 0) then (P.set p2.toNatClampNeg (2 : Int32)) else ((P.set y0.toNatClampNeg (2 : Int32)).set p2.toNatClampNeg (0 : Int32))).map Value.int) ∧ Ary tr Z h heap_o0 .int [(.int (if dle (K.getD y0.toNatClampNeg 0) (K.getD p2.toNatClampNeg 0) then y0 else p2)), (.int y1), (.int (if dle (K.getD y0.toNatClampNeg 0) (K.getD p2.toNatClampNeg 0) then p2 else y0)), (.int y3)] ∧ (Hp3 (if dle (K.getD y0.toNatClampNeg 0) (K.getD p2.toNatClampNeg 0) then y0 else p2) y1 (if dle (K.getD y0.toNatClampNeg 0) (K.getD p2.toNatClampNeg 0) then p2 else y0) (if dle (K.getD y0.toNatClampNeg 0) (K.getD p2.toNatClampNeg 0) then (P.set p2.toNatClampNeg (2 : Int32)) else ((P.set y0.toNatClampNeg (2 : Int32)).set p2.toNatClampNeg (0 : Int32))) K) ∧ (∀ z : Int32, (0 ≤ z.toInt ∧ z.toInt < 4) → ¬ p2.toInt = z.toInt → pv P z = -1 → pv (if dle (K.getD y0.toNatClampNeg 0) (K.getD p2.toNatClampNeg 0) then (P.set p2.toNatClampNeg (2 : Int32)) else ((P.set y0.toNatClampNeg (2 : Int32)).set p2.toNatClampNeg (0 : Int32))) z = -1)
set_option maxRecDepth 65536 in
set_option maxHeartbeats 40000000 in
theorem rm5n2 (l : Launch) (Z : State) (a0 : Array Value) (hw : ∀ d ∈ tables_1, d.before a0 Z = true) (ws : List Jvm.Cond) (o0 : Addr) (p2 : Int32) (heap_o0 : Addr) (position_o0 : Addr) (key_o0 : Addr) (y0 : Int32) (y1 : Int32) (y2 : Int32) (y3 : Int32) (P : List Int32) (K : List UInt64) (h0 : Heap) (n0 : Nat) (Z0 : n0 ≤ h0.size) (E_o0 : Exa Z h0 o0 "com/example/cross_town/crosstown/solve/NodeHeap") (F_o0_heap : Fld Z h0 o0 "com/example/cross_town/crosstown/solve/NodeHeap" "heap" "[I" (.ref heap_o0)) (F_o0_position : Fld Z h0 o0 "com/example/cross_town/crosstown/solve/NodeHeap" "position" "[I" (.ref position_o0)) (F_o0_key : Fld Z h0 o0 "com/example/cross_town/crosstown/solve/NodeHeap" "key" "[D" (.ref key_o0)) (V_heap_o0 : Ary tr Z h0 heap_o0 .int [(.int y0), (.int y1), (.int y2), (.int y3)]) (V_position_o0 : Ary tr Z h0 position_o0 .int (P.map Value.int)) (hl_P : (P.length = 4)) (V_key_o0 : Ary tr Z h0 key_o0 .double (K.map Value.double)) (hl_K : (K.length = 4)) (rg_p2 : (0 ≤ p2.toInt ∧ p2.toInt < 4)) (nnk : (NNk K)) (pv_p2 : (pv P p2 = -1)) (rg_y0 : (0 ≤ y0.toInt ∧ y0.toInt < 4)) (pv_y0 : (pv P y0 = 0)) (rg_y1 : (0 ≤ y1.toInt ∧ y1.toInt < 4)) (pv_y1 : (pv P y1 = 1)) (ord1 : (kv K y0 ≤ kv K y1)) (g_heap_o0 : n0 ≤ heap_o0) (ne_o0_heap_o0 : o0 ≠ heap_o0) (ne_position_o0_heap_o0 : position_o0 ≠ heap_o0) (g_position_o0 : n0 ≤ position_o0) (ne_o0_position_o0 : o0 ≠ position_o0) (ne_key_o0_position_o0 : key_o0 ≠ position_o0) (ne_key_o0_heap_o0 : key_o0 ≠ heap_o0) :
    MetFree l (⟨"com/example/cross_town/crosstown/solve/NodeHeap", "siftUp", "(II)V"⟩ : MethodName) (head1 (Jvm.Cond.code (⟨"com/example/cross_town/crosstown/solve/NodeHeap", "siftUp", "(II)V"⟩ : MethodName) prog_33_method_5_code 5 none :: ws) ({ frames := 1, cells := 0, slots := 0, locals := 14 } : Room)) (fun a U => a = #[(.ref o0), (.int (2 : Int32)), (.int p2)] ∧ Z.Warmed39 U.vm ∧ U.heap = h0) (fun _ _ _ _ _ => True) (fun _ U o U' => ∃ v L, o = .returned v ∧ Q5n2 Z o0 p2 heap_o0 position_o0 key_o0 y0 y1 y2 y3 P K h0 n0 v U'.heap L ∧ FrameEnd U o U' L ({ frames := 1, cells := 0, slots := 0, locals := 14 } : Room).cells ({ frames := 1, cells := 0, slots := 0, locals := 14 } : Room).slots) := by
  refine MetFree.of_bodySF (plainFor_of_name pn_com_example_cross_town_crosstown_solve_NodeHeap) hisR ?_
  intro p e s m args below meth c s₁ Bd hml0 hP hK
  obtain ⟨rfl, hZ, hh⟩ := hP
  have hx := Bd.exec
  have hby := Bd.bytes
  have hml : c.maxLocals = 5 := hml0
  have hown : s.vm.findClass "com/example/cross_town/crosstown/solve/NodeHeap" = some m.cls := findClass_of_methodNamed Bd.named
  have hnm := (name_of_methodNamed Bd.named Bd.method).1
  have X0 : Stand p l e ({ frames := 1, cells := 0, slots := 0, locals := 14 } : Room) s m #[(.ref o0), (.int (2 : Int32)), (.int p2)] below meth c s₁ [] 0 0 := Stand.of_body Bd
  have eH0 : s₁.heap = h0 := by rw [← hh, Bd.state]; rfl
  have N0 := Fr.nil n0
  have K0 := Keep.refl h0 [position_o0, heap_o0]
  show Gt p.tables e below (fun o U' => ∃ v L, o = .returned v ∧ Q5n2 Z o0 p2 heap_o0 position_o0 key_o0 y0 y1 y2 y3 P K h0 n0 v U'.heap L ∧ FrameEnd s o U' L ({ frames := 1, cells := 0, slots := 0, locals := 14 } : Room).cells ({ frames := 1, cells := 0, slots := 0, locals := 14 } : Room).slots) _
  refine own_cast (ef5n2 m o0 p2) ?_
  have d_y0_y1 : ¬ y0.toInt = y1.toInt := own_pne pv_y0 pv_y1 (by decide)
  have d_y0_p2 : ¬ y0.toInt = p2.toInt := own_pne pv_y0 pv_p2 (by decide)
  have d_y1_y0 : ¬ y1.toInt = y0.toInt := own_pne pv_y1 pv_y0 (by decide)
  have d_y1_p2 : ¬ y1.toInt = p2.toInt := own_pne pv_y1 pv_p2 (by decide)
  have d_p2_y0 : ¬ p2.toInt = y0.toInt := own_pne pv_p2 pv_y0 (by decide)
  have d_p2_y1 : ¬ p2.toInt = y1.toInt := own_pne pv_p2 pv_y1 (by decide)
  refine own_iloadN X0 hx hby rfl d5_0 (pc' := 1) rfl ?_
  refine own_istoreN X0 hx hby (L' := #[.val (.ref o0), .val (.int (2 : Int32)), .val (.int p2), .val (.int (2 : Int32)), .unset]) rfl d5_1 (pc' := 2) rfl ?_
  refine own_iloadN X0 hx hby rfl d5_2 (pc' := 3) rfl ?_
  refine own_ifF X0 hx hby d5_3 (by decide) (pc' := 6) rfl ?_
  refine own_iloadN X0 hx hby rfl d5_6 (pc' := 7) rfl ?_
  refine own_iconst X0 hx hby (v := (1 : Int32)) (by decide) d5_7 (pc' := 8) rfl ?_
  refine own_isub X0 hx hby (v := (1 : Int32)) (by decide) d5_8 (pc' := 9) rfl ?_
  refine own_iconst X0 hx hby (v := (2 : Int32)) (by decide) d5_9 (pc' := 10) rfl ?_
  refine own_idiv X0 hx hby (by decide) (v := (0 : Int32)) (by decide) d5_10 (pc' := 11) rfl ?_
  refine own_istore X0 hx hby (L' := #[.val (.ref o0), .val (.int (2 : Int32)), .val (.int p2), .val (.int (2 : Int32)), .val (.int (0 : Int32))]) rfl d5_11 (pc' := 13) rfl ?_
  refine own_aloadN X0 hx hby rfl rfl d5_13 (pc' := 14) rfl ?_
  refine own_getF X0 hx hby hZ hown (host := "") (Or.inl (hw _ (List.mem_of_getElem? (i := 15) rfl))) Via.refl eH0 F_o0_key d5_14 (pc' := 17) rfl (fun T1 X1 eH1 => ?_)
  refine own_aloadN X1 hx hby rfl rfl d5_17 (pc' := 18) rfl ?_
  refine own_getF X1 hx hby hZ hown (host := "") (Or.inl (hw _ (List.mem_of_getElem? (i := 11) rfl))) Via.refl eH1 F_o0_heap d5_18 (pc' := 21) rfl (fun T2 X2 eH2 => ?_)
  refine own_iload X2 hx hby rfl d5_21 (pc' := 23) rfl ?_
  refine own_iaload X2 hx hby hZ eH2 V_heap_o0 (by decide) (v := (.int y0)) rfl d5_23 (pc' := 24) rfl ?_
  refine own_daload X2 hx hby hZ eH2 V_key_o0 (own_rg0 rg_y0) (v := (.double (K.getD y0.toNatClampNeg 0))) (own_lget (own_rgl rg_y0 hl_K)) d5_24 (pc' := 25) rfl ?_
  refine own_aloadN X2 hx hby rfl rfl d5_25 (pc' := 26) rfl ?_
  refine own_getF X2 hx hby hZ hown (host := "") (Or.inl (hw _ (List.mem_of_getElem? (i := 15) rfl))) Via.refl eH2 F_o0_key d5_26 (pc' := 29) rfl (fun T3 X3 eH3 => ?_)
  refine own_iloadN X3 hx hby rfl d5_29 (pc' := 30) rfl ?_
  refine own_daload X3 hx hby hZ eH3 V_key_o0 (own_rg0 rg_p2) (v := (.double (K.getD p2.toNatClampNeg 0))) (own_lget (own_rgl rg_p2 hl_K)) d5_30 (pc' := 31) rfl ?_
  refine own_dcmp X3 hx hby rfl d5_31 (pc' := 32) rfl ?_
  by_cases hc4 : dle (K.getD y0.toNatClampNeg 0) (K.getD p2.toNatClampNeg 0)
  · refine own_ifF X3 hx hby d5_32 (own_dg_gt_p hc4) (pc' := 35) rfl ?_
    refine own_goto X3 hx hby d5_35 (by decide) (pc' := 56) (by decide) ?_
    refine own_aloadN X3 hx hby rfl rfl d5_56 (pc' := 57) rfl ?_
    refine own_iloadN X3 hx hby rfl d5_57 (pc' := 58) rfl ?_
    refine own_iloadN X3 hx hby rfl d5_58 (pc' := 59) rfl ?_
    refine own_private X3 hx hby hZ (y := (⟨"com/example/cross_town/crosstown/solve/NodeHeap", "place", "(II)V"⟩ : MethodName)) (rest := []) hown (hw _ (List.mem_of_getElem? (i := 32) rfl)) (hw _ (List.mem_of_getElem? (i := 33) rfl)) (hw _ (List.mem_of_getElem? (i := 2) rfl)) (hw _ (List.mem_of_getElem? (i := 34) rfl)) (hw _ (List.mem_of_getElem? (i := 35) rfl)) (hw _ (List.mem_of_getElem? (i := 3) rfl)) (by decide) (rm62 l Z a0 hw [] o0 p2 heap_o0 position_o0 y0 y1 y2 y3 P h0 n0 Z0 E_o0 F_o0_heap F_o0_position V_heap_o0 V_position_o0 (by first | assumption | rfl | (simp only [List.length_set]; first | assumption | rfl)) rg_p2 g_heap_o0 ne_o0_heap_o0 ne_position_o0_heap_o0 g_position_o0 ne_o0_position_o0) eH3 (by rw [hml]; rfl) (a := o0) E_o0 (argsL := [(.int (2 : Int32)), (.int p2)]) rfl (lenOf pd_1 rfl) rfl d5_59 (pc' := 62) rfl (by decide) (W := 0) (Nat.le_of_eq rfl) (by decide) (by decide) (by decide) (fun T5 h5 Lc5 v5r X5 eH5 hQ5 => ?_)
    obtain ⟨rfl, Nq5, Kq5, gq5_0, gq5_1⟩ := hQ5
    have N5 := Fr.app N0 Nq5
    replace E_o0 := E_o0.keep Kq5
    replace F_o0_heap := F_o0_heap.keep Kq5 (ninS ne_o0_heap_o0 (ninS ne_o0_position_o0 nin0))
    replace F_o0_position := F_o0_position.keep Kq5 (ninS ne_o0_heap_o0 (ninS ne_o0_position_o0 nin0))
    replace F_o0_key := F_o0_key.keep Kq5 (ninS ne_o0_heap_o0 (ninS ne_o0_position_o0 nin0))
    replace V_key_o0 := V_key_o0.keep Kq5 (ninS ne_key_o0_heap_o0 (ninS ne_key_o0_position_o0 nin0))
    replace K0 := K0.trans Kq5 (allS (Or.inl (by simp)) (allS (Or.inl (by simp)) all0))
    have V_heap_o0 := gq5_0
    have hl6 : (P.set p2.toNatClampNeg (2 : Int32)).length = 4 := by (repeat' split) <;> (simp only [List.length_set]; first | assumption | rfl)
    have V_position_o0 := gq5_1
    replace Z0 := Nat.le_trans Z0 Kq5.1
    have o0 := (own_kle nnk y0 p2).mp hc4
    have HH : Hp3 y0 y1 p2 (P.set p2.toNatClampNeg (2 : Int32)) K := ⟨rg_y0, rg_y1, rg_p2, (by rw [own_pvs hl_P rg_p2 rg_y0, if_neg d_p2_y0]; exact pv_y0), (by rw [own_pvs hl_P rg_p2 rg_y1, if_neg d_p2_y1]; exact pv_y1), (by rw [own_pvs hl_P rg_p2 rg_p2, if_pos rfl]; first | done | decide), (by omega), (by omega)⟩
    have HA : ∀ z : Int32, (0 ≤ z.toInt ∧ z.toInt < 4) → ¬ p2.toInt = z.toInt → pv P z = -1 → pv (P.set p2.toNatClampNeg (2 : Int32)) z = -1 := fun z rgz hpz hz => (by rw [own_pvs hl_P rg_p2 rgz, if_neg hpz]; exact hz)
    exact own_retV X5 hx hby Bd.notSynchronized Bd.returns d5_62 (by decide) (by decide) eH5 ⟨rfl, N5, K0, (by simp only [if_pos hc4]; exact V_position_o0), (by simp only [if_pos hc4]; exact V_heap_o0), (by simp only [if_pos hc4]; exact HH), (by simp only [if_pos hc4]; exact HA)⟩
  · refine own_ifT X3 hx hby d5_32 (own_dg_gt_n hc4) (by decide) (pc' := 38) (by decide) ?_
    refine own_aloadN X3 hx hby rfl rfl d5_38 (pc' := 39) rfl ?_
    refine own_iloadN X3 hx hby rfl d5_39 (pc' := 40) rfl ?_
    refine own_aloadN X3 hx hby rfl rfl d5_40 (pc' := 41) rfl ?_
    refine own_getF X3 hx hby hZ hown (host := "") (Or.inl (hw _ (List.mem_of_getElem? (i := 11) rfl))) Via.refl eH3 F_o0_heap d5_41 (pc' := 44) rfl (fun T7 X7 eH7 => ?_)
    refine own_iload X7 hx hby rfl d5_44 (pc' := 46) rfl ?_
    refine own_iaload X7 hx hby hZ eH7 V_heap_o0 (by decide) (v := (.int y0)) rfl d5_46 (pc' := 47) rfl ?_
    refine own_private X7 hx hby hZ (y := (⟨"com/example/cross_town/crosstown/solve/NodeHeap", "place", "(II)V"⟩ : MethodName)) (rest := []) hown (hw _ (List.mem_of_getElem? (i := 32) rfl)) (hw _ (List.mem_of_getElem? (i := 33) rfl)) (hw _ (List.mem_of_getElem? (i := 2) rfl)) (hw _ (List.mem_of_getElem? (i := 34) rfl)) (hw _ (List.mem_of_getElem? (i := 35) rfl)) (hw _ (List.mem_of_getElem? (i := 3) rfl)) (by decide) (rm62 l Z a0 hw [] o0 y0 heap_o0 position_o0 y0 y1 y2 y3 P h0 n0 Z0 E_o0 F_o0_heap F_o0_position V_heap_o0 V_position_o0 (by first | assumption | rfl | (simp only [List.length_set]; first | assumption | rfl)) rg_y0 g_heap_o0 ne_o0_heap_o0 ne_position_o0_heap_o0 g_position_o0 ne_o0_position_o0) eH7 (by rw [hml]; rfl) (a := o0) E_o0 (argsL := [(.int (2 : Int32)), (.int y0)]) rfl (lenOf pd_1 rfl) rfl d5_47 (pc' := 50) rfl (by decide) (W := 0) (Nat.le_of_eq rfl) (by decide) (by decide) (by decide) (fun T8 h8 Lc8 v8r X8 eH8 hQ8 => ?_)
    obtain ⟨rfl, Nq8, Kq8, gq8_0, gq8_1⟩ := hQ8
    have N8 := Fr.app N0 Nq8
    replace E_o0 := E_o0.keep Kq8
    replace F_o0_heap := F_o0_heap.keep Kq8 (ninS ne_o0_heap_o0 (ninS ne_o0_position_o0 nin0))
    replace F_o0_position := F_o0_position.keep Kq8 (ninS ne_o0_heap_o0 (ninS ne_o0_position_o0 nin0))
    replace F_o0_key := F_o0_key.keep Kq8 (ninS ne_o0_heap_o0 (ninS ne_o0_position_o0 nin0))
    replace V_key_o0 := V_key_o0.keep Kq8 (ninS ne_key_o0_heap_o0 (ninS ne_key_o0_position_o0 nin0))
    replace K0 := K0.trans Kq8 (allS (Or.inl (by simp)) (allS (Or.inl (by simp)) all0))
    have V_heap_o0 := gq8_0
    have hl9 : (P.set y0.toNatClampNeg (2 : Int32)).length = 4 := by (repeat' split) <;> (simp only [List.length_set]; first | assumption | rfl)
    have V_position_o0 := gq8_1
    replace Z0 := Nat.le_trans Z0 Kq8.1
    refine own_iload X8 hx hby rfl d5_50 (pc' := 52) rfl ?_
    refine own_istoreN X8 hx hby (L' := #[.val (.ref o0), .val (.int (2 : Int32)), .val (.int p2), .val (.int (0 : Int32)), .val (.int (0 : Int32))]) rfl d5_52 (pc' := 53) rfl ?_
    refine own_goto X8 hx hby d5_53 (by decide) (pc' := 2) (by decide) ?_
    refine own_iloadN X8 hx hby rfl d5_2 (pc' := 3) rfl ?_
    refine own_ifT X8 hx hby d5_3 (by decide) (by decide) (pc' := 56) (by decide) ?_
    refine own_aloadN X8 hx hby rfl rfl d5_56 (pc' := 57) rfl ?_
    refine own_iloadN X8 hx hby rfl d5_57 (pc' := 58) rfl ?_
    refine own_iloadN X8 hx hby rfl d5_58 (pc' := 59) rfl ?_
    refine own_private X8 hx hby hZ (y := (⟨"com/example/cross_town/crosstown/solve/NodeHeap", "place", "(II)V"⟩ : MethodName)) (rest := []) hown (hw _ (List.mem_of_getElem? (i := 32) rfl)) (hw _ (List.mem_of_getElem? (i := 33) rfl)) (hw _ (List.mem_of_getElem? (i := 2) rfl)) (hw _ (List.mem_of_getElem? (i := 34) rfl)) (hw _ (List.mem_of_getElem? (i := 35) rfl)) (hw _ (List.mem_of_getElem? (i := 3) rfl)) (by decide) (rm60 l Z a0 hw [] o0 p2 heap_o0 position_o0 y0 y1 y0 y3 (P.set y0.toNatClampNeg (2 : Int32)) h8 n0 Z0 E_o0 F_o0_heap F_o0_position V_heap_o0 V_position_o0 (by first | assumption | rfl | (simp only [List.length_set]; first | assumption | rfl)) rg_p2 g_heap_o0 ne_o0_heap_o0 ne_position_o0_heap_o0 g_position_o0 ne_o0_position_o0) eH8 (by rw [hml]; rfl) (a := o0) E_o0 (argsL := [(.int (0 : Int32)), (.int p2)]) rfl (lenOf pd_1 rfl) rfl d5_59 (pc' := 62) rfl (by decide) (W := 0) (Nat.le_of_eq rfl) (by decide) (by decide) (by decide) (fun T10 h10 Lc10 v10r X10 eH10 hQ10 => ?_)
    obtain ⟨rfl, Nq10, Kq10, gq10_0, gq10_1⟩ := hQ10
    have N10 := Fr.app N8 Nq10
    replace E_o0 := E_o0.keep Kq10
    replace F_o0_heap := F_o0_heap.keep Kq10 (ninS ne_o0_heap_o0 (ninS ne_o0_position_o0 nin0))
    replace F_o0_position := F_o0_position.keep Kq10 (ninS ne_o0_heap_o0 (ninS ne_o0_position_o0 nin0))
    replace F_o0_key := F_o0_key.keep Kq10 (ninS ne_o0_heap_o0 (ninS ne_o0_position_o0 nin0))
    replace V_key_o0 := V_key_o0.keep Kq10 (ninS ne_key_o0_heap_o0 (ninS ne_key_o0_position_o0 nin0))
    replace K0 := K0.trans Kq10 (allS (Or.inl (by simp)) (allS (Or.inl (by simp)) all0))
    have V_heap_o0 := gq10_0
    have hl11 : ((P.set y0.toNatClampNeg (2 : Int32)).set p2.toNatClampNeg (0 : Int32)).length = 4 := by (repeat' split) <;> (simp only [List.length_set]; first | assumption | rfl)
    have V_position_o0 := gq10_1
    replace Z0 := Nat.le_trans Z0 Kq10.1
    have o0 := mt (own_kle nnk y0 p2).mpr hc4
    have HH : Hp3 p2 y1 y0 ((P.set y0.toNatClampNeg (2 : Int32)).set p2.toNatClampNeg (0 : Int32)) K := ⟨rg_p2, rg_y1, rg_y0, (by rw [own_pvs (by simp only [List.length_set]; exact hl_P) rg_p2 rg_p2, if_pos rfl]; first | done | decide), (by rw [own_pvs (by simp only [List.length_set]; exact hl_P) rg_p2 rg_y1, if_neg d_p2_y1, own_pvs hl_P rg_y0 rg_y1, if_neg d_y0_y1]; exact pv_y1), (by rw [own_pvs (by simp only [List.length_set]; exact hl_P) rg_p2 rg_y0, if_neg d_p2_y0, own_pvs hl_P rg_y0 rg_y0, if_pos rfl]; first | done | decide), (by omega), (by omega)⟩
    have HA : ∀ z : Int32, (0 ≤ z.toInt ∧ z.toInt < 4) → ¬ p2.toInt = z.toInt → pv P z = -1 → pv ((P.set y0.toNatClampNeg (2 : Int32)).set p2.toNatClampNeg (0 : Int32)) z = -1 := fun z rgz hpz hz => (by rw [own_pvs (by simp only [List.length_set]; exact hl_P) rg_p2 rgz, if_neg hpz, own_pvs hl_P rg_y0 rgz, if_neg (own_pne pv_y0 hz (by decide))]; exact hz)
    exact own_retV X10 hx hby Bd.notSynchronized Bd.returns d5_62 (by decide) (by decide) eH10 ⟨rfl, N10, K0, (by simp only [if_neg hc4]; exact V_position_o0), (by simp only [if_neg hc4]; exact V_heap_o0), (by simp only [if_neg hc4]; exact HH), (by simp only [if_neg hc4]; exact HA)⟩
theorem ef5n3 (m : MethodId) (x0 : Addr) (x2 : Int32) : entryFrame m #[(.ref x0), (.int (3 : Int32)), (.int x2)] 5 = mkF m 0 #[.val (.ref x0), .val (.int (3 : Int32)), .val (.int x2), .unset, .unset] [] := by first | (simp [entryFrame, mkF, argsToLocals, Value.category]; done) | rfl
def Q5n3 (Z : State) (o0 : Addr) (p2 : Int32) (heap_o0 : Addr) (position_o0 : Addr) (key_o0 : Addr) (y0 : Int32) (y1 : Int32) (y2 : Int32) (y3 : Int32) (P : List Int32) (K : List UInt64) (h0 : Heap) (n0 : Nat) (v : Option Value) (h : Heap) (L : List Loc) : Prop := v = none ∧ Fr n0 L ∧ Keep h0 h [position_o0, heap_o0] ∧ Ary tr Z h position_o0 .int ((if dle (K.getD y1.toNatClampNeg 0) (K.getD p2.toNatClampNeg 0) then (P.set p2.toNatClampNeg (3 : Int32)) else (if dle (K.getD y0.toNatClampNeg 0) (K.getD p2.toNatClampNeg 0) then ((P.set y1.toNatClampNeg (3 : Int32)).set p2.toNatClampNeg (1 : Int32)) else (((P.set y1.toNatClampNeg (3 : Int32)).set y0.toNatClampNeg (1 : Int32)).set p2.toNatClampNeg (0 : Int32)))).map Value.int) ∧ Ary tr Z h heap_o0 .int [(.int (if dle (K.getD y1.toNatClampNeg 0) (K.getD p2.toNatClampNeg 0) then y0 else (if dle (K.getD y0.toNatClampNeg 0) (K.getD p2.toNatClampNeg 0) then y0 else p2))), (.int (if dle (K.getD y1.toNatClampNeg 0) (K.getD p2.toNatClampNeg 0) then y1 else (if dle (K.getD y0.toNatClampNeg 0) (K.getD p2.toNatClampNeg 0) then p2 else y0))), (.int y2), (.int (if dle (K.getD y1.toNatClampNeg 0) (K.getD p2.toNatClampNeg 0) then p2 else (if dle (K.getD y0.toNatClampNeg 0) (K.getD p2.toNatClampNeg 0) then y1 else y1)))] ∧ (Hp4 (if dle (K.getD y1.toNatClampNeg 0) (K.getD p2.toNatClampNeg 0) then y0 else (if dle (K.getD y0.toNatClampNeg 0) (K.getD p2.toNatClampNeg 0) then y0 else p2)) (if dle (K.getD y1.toNatClampNeg 0) (K.getD p2.toNatClampNeg 0) then y1 else (if dle (K.getD y0.toNatClampNeg 0) (K.getD p2.toNatClampNeg 0) then p2 else y0)) y2 (if dle (K.getD y1.toNatClampNeg 0) (K.getD p2.toNatClampNeg 0) then p2 else (if dle (K.getD y0.toNatClampNeg 0) (K.getD p2.toNatClampNeg 0) then y1 else y1)) (if dle (K.getD y1.toNatClampNeg 0) (K.getD p2.toNatClampNeg 0) then (P.set p2.toNatClampNeg (3 : Int32)) else (if dle (K.getD y0.toNatClampNeg 0) (K.getD p2.toNatClampNeg 0) then ((P.set y1.toNatClampNeg (3 : Int32)).set p2.toNatClampNeg (1 : Int32)) else (((P.set y1.toNatClampNeg (3 : Int32)).set y0.toNatClampNeg (1 : Int32)).set p2.toNatClampNeg (0 : Int32)))) K) ∧ (∀ z : Int32, (0 ≤ z.toInt ∧ z.toInt < 4) → ¬ p2.toInt = z.toInt → pv P z = -1 → pv (if dle (K.getD y1.toNatClampNeg 0) (K.getD p2.toNatClampNeg 0) then (P.set p2.toNatClampNeg (3 : Int32)) else (if dle (K.getD y0.toNatClampNeg 0) (K.getD p2.toNatClampNeg 0) then ((P.set y1.toNatClampNeg (3 : Int32)).set p2.toNatClampNeg (1 : Int32)) else (((P.set y1.toNatClampNeg (3 : Int32)).set y0.toNatClampNeg (1 : Int32)).set p2.toNatClampNeg (0 : Int32)))) z = -1)
set_option maxRecDepth 65536 in
set_option maxHeartbeats 40000000 in
theorem rm5n3 (l : Launch) (Z : State) (a0 : Array Value) (hw : ∀ d ∈ tables_1, d.before a0 Z = true) (ws : List Jvm.Cond) (o0 : Addr) (p2 : Int32) (heap_o0 : Addr) (position_o0 : Addr) (key_o0 : Addr) (y0 : Int32) (y1 : Int32) (y2 : Int32) (y3 : Int32) (P : List Int32) (K : List UInt64) (h0 : Heap) (n0 : Nat) (Z0 : n0 ≤ h0.size) (E_o0 : Exa Z h0 o0 "com/example/cross_town/crosstown/solve/NodeHeap") (F_o0_heap : Fld Z h0 o0 "com/example/cross_town/crosstown/solve/NodeHeap" "heap" "[I" (.ref heap_o0)) (F_o0_position : Fld Z h0 o0 "com/example/cross_town/crosstown/solve/NodeHeap" "position" "[I" (.ref position_o0)) (F_o0_key : Fld Z h0 o0 "com/example/cross_town/crosstown/solve/NodeHeap" "key" "[D" (.ref key_o0)) (V_heap_o0 : Ary tr Z h0 heap_o0 .int [(.int y0), (.int y1), (.int y2), (.int y3)]) (V_position_o0 : Ary tr Z h0 position_o0 .int (P.map Value.int)) (hl_P : (P.length = 4)) (V_key_o0 : Ary tr Z h0 key_o0 .double (K.map Value.double)) (hl_K : (K.length = 4)) (rg_p2 : (0 ≤ p2.toInt ∧ p2.toInt < 4)) (nnk : (NNk K)) (pv_p2 : (pv P p2 = -1)) (rg_y0 : (0 ≤ y0.toInt ∧ y0.toInt < 4)) (pv_y0 : (pv P y0 = 0)) (rg_y1 : (0 ≤ y1.toInt ∧ y1.toInt < 4)) (pv_y1 : (pv P y1 = 1)) (rg_y2 : (0 ≤ y2.toInt ∧ y2.toInt < 4)) (pv_y2 : (pv P y2 = 2)) (ord1 : (kv K y0 ≤ kv K y1)) (ord2 : (kv K y0 ≤ kv K y2)) (g_heap_o0 : n0 ≤ heap_o0) (ne_o0_heap_o0 : o0 ≠ heap_o0) (ne_position_o0_heap_o0 : position_o0 ≠ heap_o0) (g_position_o0 : n0 ≤ position_o0) (ne_o0_position_o0 : o0 ≠ position_o0) (ne_key_o0_position_o0 : key_o0 ≠ position_o0) (ne_key_o0_heap_o0 : key_o0 ≠ heap_o0) :
    MetFree l (⟨"com/example/cross_town/crosstown/solve/NodeHeap", "siftUp", "(II)V"⟩ : MethodName) (head1 (Jvm.Cond.code (⟨"com/example/cross_town/crosstown/solve/NodeHeap", "siftUp", "(II)V"⟩ : MethodName) prog_33_method_5_code 5 none :: ws) ({ frames := 1, cells := 0, slots := 0, locals := 14 } : Room)) (fun a U => a = #[(.ref o0), (.int (3 : Int32)), (.int p2)] ∧ Z.Warmed39 U.vm ∧ U.heap = h0) (fun _ _ _ _ _ => True) (fun _ U o U' => ∃ v L, o = .returned v ∧ Q5n3 Z o0 p2 heap_o0 position_o0 key_o0 y0 y1 y2 y3 P K h0 n0 v U'.heap L ∧ FrameEnd U o U' L ({ frames := 1, cells := 0, slots := 0, locals := 14 } : Room).cells ({ frames := 1, cells := 0, slots := 0, locals := 14 } : Room).slots) := by
  refine MetFree.of_bodySF (plainFor_of_name pn_com_example_cross_town_crosstown_solve_NodeHeap) hisR ?_
  intro p e s m args below meth c s₁ Bd hml0 hP hK
  obtain ⟨rfl, hZ, hh⟩ := hP
  have hx := Bd.exec
  have hby := Bd.bytes
  have hml : c.maxLocals = 5 := hml0
  have hown : s.vm.findClass "com/example/cross_town/crosstown/solve/NodeHeap" = some m.cls := findClass_of_methodNamed Bd.named
  have hnm := (name_of_methodNamed Bd.named Bd.method).1
  have X0 : Stand p l e ({ frames := 1, cells := 0, slots := 0, locals := 14 } : Room) s m #[(.ref o0), (.int (3 : Int32)), (.int p2)] below meth c s₁ [] 0 0 := Stand.of_body Bd
  have eH0 : s₁.heap = h0 := by rw [← hh, Bd.state]; rfl
  have N0 := Fr.nil n0
  have K0 := Keep.refl h0 [position_o0, heap_o0]
  show Gt p.tables e below (fun o U' => ∃ v L, o = .returned v ∧ Q5n3 Z o0 p2 heap_o0 position_o0 key_o0 y0 y1 y2 y3 P K h0 n0 v U'.heap L ∧ FrameEnd s o U' L ({ frames := 1, cells := 0, slots := 0, locals := 14 } : Room).cells ({ frames := 1, cells := 0, slots := 0, locals := 14 } : Room).slots) _
  refine own_cast (ef5n3 m o0 p2) ?_
  have d_y0_y1 : ¬ y0.toInt = y1.toInt := own_pne pv_y0 pv_y1 (by decide)
  have d_y0_y2 : ¬ y0.toInt = y2.toInt := own_pne pv_y0 pv_y2 (by decide)
  have d_y0_p2 : ¬ y0.toInt = p2.toInt := own_pne pv_y0 pv_p2 (by decide)
  have d_y1_y0 : ¬ y1.toInt = y0.toInt := own_pne pv_y1 pv_y0 (by decide)
  have d_y1_y2 : ¬ y1.toInt = y2.toInt := own_pne pv_y1 pv_y2 (by decide)
  have d_y1_p2 : ¬ y1.toInt = p2.toInt := own_pne pv_y1 pv_p2 (by decide)
  have d_y2_y0 : ¬ y2.toInt = y0.toInt := own_pne pv_y2 pv_y0 (by decide)
  have d_y2_y1 : ¬ y2.toInt = y1.toInt := own_pne pv_y2 pv_y1 (by decide)
  have d_y2_p2 : ¬ y2.toInt = p2.toInt := own_pne pv_y2 pv_p2 (by decide)
  have d_p2_y0 : ¬ p2.toInt = y0.toInt := own_pne pv_p2 pv_y0 (by decide)
  have d_p2_y1 : ¬ p2.toInt = y1.toInt := own_pne pv_p2 pv_y1 (by decide)
  have d_p2_y2 : ¬ p2.toInt = y2.toInt := own_pne pv_p2 pv_y2 (by decide)
  refine own_iloadN X0 hx hby rfl d5_0 (pc' := 1) rfl ?_
  refine own_istoreN X0 hx hby (L' := #[.val (.ref o0), .val (.int (3 : Int32)), .val (.int p2), .val (.int (3 : Int32)), .unset]) rfl d5_1 (pc' := 2) rfl ?_
  refine own_iloadN X0 hx hby rfl d5_2 (pc' := 3) rfl ?_
  refine own_ifF X0 hx hby d5_3 (by decide) (pc' := 6) rfl ?_
  refine own_iloadN X0 hx hby rfl d5_6 (pc' := 7) rfl ?_
  refine own_iconst X0 hx hby (v := (1 : Int32)) (by decide) d5_7 (pc' := 8) rfl ?_
  refine own_isub X0 hx hby (v := (2 : Int32)) (by decide) d5_8 (pc' := 9) rfl ?_
  refine own_iconst X0 hx hby (v := (2 : Int32)) (by decide) d5_9 (pc' := 10) rfl ?_
  refine own_idiv X0 hx hby (by decide) (v := (1 : Int32)) (by decide) d5_10 (pc' := 11) rfl ?_
  refine own_istore X0 hx hby (L' := #[.val (.ref o0), .val (.int (3 : Int32)), .val (.int p2), .val (.int (3 : Int32)), .val (.int (1 : Int32))]) rfl d5_11 (pc' := 13) rfl ?_
  refine own_aloadN X0 hx hby rfl rfl d5_13 (pc' := 14) rfl ?_
  refine own_getF X0 hx hby hZ hown (host := "") (Or.inl (hw _ (List.mem_of_getElem? (i := 15) rfl))) Via.refl eH0 F_o0_key d5_14 (pc' := 17) rfl (fun T1 X1 eH1 => ?_)
  refine own_aloadN X1 hx hby rfl rfl d5_17 (pc' := 18) rfl ?_
  refine own_getF X1 hx hby hZ hown (host := "") (Or.inl (hw _ (List.mem_of_getElem? (i := 11) rfl))) Via.refl eH1 F_o0_heap d5_18 (pc' := 21) rfl (fun T2 X2 eH2 => ?_)
  refine own_iload X2 hx hby rfl d5_21 (pc' := 23) rfl ?_
  refine own_iaload X2 hx hby hZ eH2 V_heap_o0 (by decide) (v := (.int y1)) rfl d5_23 (pc' := 24) rfl ?_
  refine own_daload X2 hx hby hZ eH2 V_key_o0 (own_rg0 rg_y1) (v := (.double (K.getD y1.toNatClampNeg 0))) (own_lget (own_rgl rg_y1 hl_K)) d5_24 (pc' := 25) rfl ?_
  refine own_aloadN X2 hx hby rfl rfl d5_25 (pc' := 26) rfl ?_
  refine own_getF X2 hx hby hZ hown (host := "") (Or.inl (hw _ (List.mem_of_getElem? (i := 15) rfl))) Via.refl eH2 F_o0_key d5_26 (pc' := 29) rfl (fun T3 X3 eH3 => ?_)
  refine own_iloadN X3 hx hby rfl d5_29 (pc' := 30) rfl ?_
  refine own_daload X3 hx hby hZ eH3 V_key_o0 (own_rg0 rg_p2) (v := (.double (K.getD p2.toNatClampNeg 0))) (own_lget (own_rgl rg_p2 hl_K)) d5_30 (pc' := 31) rfl ?_
  refine own_dcmp X3 hx hby rfl d5_31 (pc' := 32) rfl ?_
  by_cases hc4 : dle (K.getD y1.toNatClampNeg 0) (K.getD p2.toNatClampNeg 0)
  · refine own_ifF X3 hx hby d5_32 (own_dg_gt_p hc4) (pc' := 35) rfl ?_
    refine own_goto X3 hx hby d5_35 (by decide) (pc' := 56) (by decide) ?_
    refine own_aloadN X3 hx hby rfl rfl d5_56 (pc' := 57) rfl ?_
    refine own_iloadN X3 hx hby rfl d5_57 (pc' := 58) rfl ?_
    refine own_iloadN X3 hx hby rfl d5_58 (pc' := 59) rfl ?_
    refine own_private X3 hx hby hZ (y := (⟨"com/example/cross_town/crosstown/solve/NodeHeap", "place", "(II)V"⟩ : MethodName)) (rest := []) hown (hw _ (List.mem_of_getElem? (i := 32) rfl)) (hw _ (List.mem_of_getElem? (i := 33) rfl)) (hw _ (List.mem_of_getElem? (i := 2) rfl)) (hw _ (List.mem_of_getElem? (i := 34) rfl)) (hw _ (List.mem_of_getElem? (i := 35) rfl)) (hw _ (List.mem_of_getElem? (i := 3) rfl)) (by decide) (rm63 l Z a0 hw [] o0 p2 heap_o0 position_o0 y0 y1 y2 y3 P h0 n0 Z0 E_o0 F_o0_heap F_o0_position V_heap_o0 V_position_o0 (by first | assumption | rfl | (simp only [List.length_set]; first | assumption | rfl)) rg_p2 g_heap_o0 ne_o0_heap_o0 ne_position_o0_heap_o0 g_position_o0 ne_o0_position_o0) eH3 (by rw [hml]; rfl) (a := o0) E_o0 (argsL := [(.int (3 : Int32)), (.int p2)]) rfl (lenOf pd_1 rfl) rfl d5_59 (pc' := 62) rfl (by decide) (W := 0) (Nat.le_of_eq rfl) (by decide) (by decide) (by decide) (fun T5 h5 Lc5 v5r X5 eH5 hQ5 => ?_)
    obtain ⟨rfl, Nq5, Kq5, gq5_0, gq5_1⟩ := hQ5
    have N5 := Fr.app N0 Nq5
    replace E_o0 := E_o0.keep Kq5
    replace F_o0_heap := F_o0_heap.keep Kq5 (ninS ne_o0_heap_o0 (ninS ne_o0_position_o0 nin0))
    replace F_o0_position := F_o0_position.keep Kq5 (ninS ne_o0_heap_o0 (ninS ne_o0_position_o0 nin0))
    replace F_o0_key := F_o0_key.keep Kq5 (ninS ne_o0_heap_o0 (ninS ne_o0_position_o0 nin0))
    replace V_key_o0 := V_key_o0.keep Kq5 (ninS ne_key_o0_heap_o0 (ninS ne_key_o0_position_o0 nin0))
    replace K0 := K0.trans Kq5 (allS (Or.inl (by simp)) (allS (Or.inl (by simp)) all0))
    have V_heap_o0 := gq5_0
    have hl6 : (P.set p2.toNatClampNeg (3 : Int32)).length = 4 := by (repeat' split) <;> (simp only [List.length_set]; first | assumption | rfl)
    have V_position_o0 := gq5_1
    replace Z0 := Nat.le_trans Z0 Kq5.1
    have o0 := (own_kle nnk y1 p2).mp hc4
    have HH : Hp4 y0 y1 y2 p2 (P.set p2.toNatClampNeg (3 : Int32)) K := ⟨rg_y0, rg_y1, rg_y2, rg_p2, (by rw [own_pvs hl_P rg_p2 rg_y0, if_neg d_p2_y0]; exact pv_y0), (by rw [own_pvs hl_P rg_p2 rg_y1, if_neg d_p2_y1]; exact pv_y1), (by rw [own_pvs hl_P rg_p2 rg_y2, if_neg d_p2_y2]; exact pv_y2), (by rw [own_pvs hl_P rg_p2 rg_p2, if_pos rfl]; first | done | decide), (by omega), (by omega), (by omega)⟩
    have HA : ∀ z : Int32, (0 ≤ z.toInt ∧ z.toInt < 4) → ¬ p2.toInt = z.toInt → pv P z = -1 → pv (P.set p2.toNatClampNeg (3 : Int32)) z = -1 := fun z rgz hpz hz => (by rw [own_pvs hl_P rg_p2 rgz, if_neg hpz]; exact hz)
    exact own_retV X5 hx hby Bd.notSynchronized Bd.returns d5_62 (by decide) (by decide) eH5 ⟨rfl, N5, K0, (by simp only [if_pos hc4]; exact V_position_o0), (by simp only [if_pos hc4]; exact V_heap_o0), (by simp only [if_pos hc4]; exact HH), (by simp only [if_pos hc4]; exact HA)⟩
  · refine own_ifT X3 hx hby d5_32 (own_dg_gt_n hc4) (by decide) (pc' := 38) (by decide) ?_
    refine own_aloadN X3 hx hby rfl rfl d5_38 (pc' := 39) rfl ?_
    refine own_iloadN X3 hx hby rfl d5_39 (pc' := 40) rfl ?_
    refine own_aloadN X3 hx hby rfl rfl d5_40 (pc' := 41) rfl ?_
    refine own_getF X3 hx hby hZ hown (host := "") (Or.inl (hw _ (List.mem_of_getElem? (i := 11) rfl))) Via.refl eH3 F_o0_heap d5_41 (pc' := 44) rfl (fun T7 X7 eH7 => ?_)
    refine own_iload X7 hx hby rfl d5_44 (pc' := 46) rfl ?_
    refine own_iaload X7 hx hby hZ eH7 V_heap_o0 (by decide) (v := (.int y1)) rfl d5_46 (pc' := 47) rfl ?_
    refine own_private X7 hx hby hZ (y := (⟨"com/example/cross_town/crosstown/solve/NodeHeap", "place", "(II)V"⟩ : MethodName)) (rest := []) hown (hw _ (List.mem_of_getElem? (i := 32) rfl)) (hw _ (List.mem_of_getElem? (i := 33) rfl)) (hw _ (List.mem_of_getElem? (i := 2) rfl)) (hw _ (List.mem_of_getElem? (i := 34) rfl)) (hw _ (List.mem_of_getElem? (i := 35) rfl)) (hw _ (List.mem_of_getElem? (i := 3) rfl)) (by decide) (rm63 l Z a0 hw [] o0 y1 heap_o0 position_o0 y0 y1 y2 y3 P h0 n0 Z0 E_o0 F_o0_heap F_o0_position V_heap_o0 V_position_o0 (by first | assumption | rfl | (simp only [List.length_set]; first | assumption | rfl)) rg_y1 g_heap_o0 ne_o0_heap_o0 ne_position_o0_heap_o0 g_position_o0 ne_o0_position_o0) eH7 (by rw [hml]; rfl) (a := o0) E_o0 (argsL := [(.int (3 : Int32)), (.int y1)]) rfl (lenOf pd_1 rfl) rfl d5_47 (pc' := 50) rfl (by decide) (W := 0) (Nat.le_of_eq rfl) (by decide) (by decide) (by decide) (fun T8 h8 Lc8 v8r X8 eH8 hQ8 => ?_)
    obtain ⟨rfl, Nq8, Kq8, gq8_0, gq8_1⟩ := hQ8
    have N8 := Fr.app N0 Nq8
    replace E_o0 := E_o0.keep Kq8
    replace F_o0_heap := F_o0_heap.keep Kq8 (ninS ne_o0_heap_o0 (ninS ne_o0_position_o0 nin0))
    replace F_o0_position := F_o0_position.keep Kq8 (ninS ne_o0_heap_o0 (ninS ne_o0_position_o0 nin0))
    replace F_o0_key := F_o0_key.keep Kq8 (ninS ne_o0_heap_o0 (ninS ne_o0_position_o0 nin0))
    replace V_key_o0 := V_key_o0.keep Kq8 (ninS ne_key_o0_heap_o0 (ninS ne_key_o0_position_o0 nin0))
    replace K0 := K0.trans Kq8 (allS (Or.inl (by simp)) (allS (Or.inl (by simp)) all0))
    have V_heap_o0 := gq8_0
    have hl9 : (P.set y1.toNatClampNeg (3 : Int32)).length = 4 := by (repeat' split) <;> (simp only [List.length_set]; first | assumption | rfl)
    have V_position_o0 := gq8_1
    replace Z0 := Nat.le_trans Z0 Kq8.1
    refine own_iload X8 hx hby rfl d5_50 (pc' := 52) rfl ?_
    refine own_istoreN X8 hx hby (L' := #[.val (.ref o0), .val (.int (3 : Int32)), .val (.int p2), .val (.int (1 : Int32)), .val (.int (1 : Int32))]) rfl d5_52 (pc' := 53) rfl ?_
    refine own_goto X8 hx hby d5_53 (by decide) (pc' := 2) (by decide) ?_
    refine own_iloadN X8 hx hby rfl d5_2 (pc' := 3) rfl ?_
    refine own_ifF X8 hx hby d5_3 (by decide) (pc' := 6) rfl ?_
    refine own_iloadN X8 hx hby rfl d5_6 (pc' := 7) rfl ?_
    refine own_iconst X8 hx hby (v := (1 : Int32)) (by decide) d5_7 (pc' := 8) rfl ?_
    refine own_isub X8 hx hby (v := (0 : Int32)) (by decide) d5_8 (pc' := 9) rfl ?_
    refine own_iconst X8 hx hby (v := (2 : Int32)) (by decide) d5_9 (pc' := 10) rfl ?_
    refine own_idiv X8 hx hby (by decide) (v := (0 : Int32)) (by decide) d5_10 (pc' := 11) rfl ?_
    refine own_istore X8 hx hby (L' := #[.val (.ref o0), .val (.int (3 : Int32)), .val (.int p2), .val (.int (1 : Int32)), .val (.int (0 : Int32))]) rfl d5_11 (pc' := 13) rfl ?_
    refine own_aloadN X8 hx hby rfl rfl d5_13 (pc' := 14) rfl ?_
    refine own_getF X8 hx hby hZ hown (host := "") (Or.inl (hw _ (List.mem_of_getElem? (i := 15) rfl))) Via.refl eH8 F_o0_key d5_14 (pc' := 17) rfl (fun T10 X10 eH10 => ?_)
    refine own_aloadN X10 hx hby rfl rfl d5_17 (pc' := 18) rfl ?_
    refine own_getF X10 hx hby hZ hown (host := "") (Or.inl (hw _ (List.mem_of_getElem? (i := 11) rfl))) Via.refl eH10 F_o0_heap d5_18 (pc' := 21) rfl (fun T11 X11 eH11 => ?_)
    refine own_iload X11 hx hby rfl d5_21 (pc' := 23) rfl ?_
    refine own_iaload X11 hx hby hZ eH11 V_heap_o0 (by decide) (v := (.int y0)) rfl d5_23 (pc' := 24) rfl ?_
    refine own_daload X11 hx hby hZ eH11 V_key_o0 (own_rg0 rg_y0) (v := (.double (K.getD y0.toNatClampNeg 0))) (own_lget (own_rgl rg_y0 hl_K)) d5_24 (pc' := 25) rfl ?_
    refine own_aloadN X11 hx hby rfl rfl d5_25 (pc' := 26) rfl ?_
    refine own_getF X11 hx hby hZ hown (host := "") (Or.inl (hw _ (List.mem_of_getElem? (i := 15) rfl))) Via.refl eH11 F_o0_key d5_26 (pc' := 29) rfl (fun T12 X12 eH12 => ?_)
    refine own_iloadN X12 hx hby rfl d5_29 (pc' := 30) rfl ?_
    refine own_daload X12 hx hby hZ eH12 V_key_o0 (own_rg0 rg_p2) (v := (.double (K.getD p2.toNatClampNeg 0))) (own_lget (own_rgl rg_p2 hl_K)) d5_30 (pc' := 31) rfl ?_
    refine own_dcmp X12 hx hby rfl d5_31 (pc' := 32) rfl ?_
    by_cases hc13 : dle (K.getD y0.toNatClampNeg 0) (K.getD p2.toNatClampNeg 0)
    · refine own_ifF X12 hx hby d5_32 (own_dg_gt_p hc13) (pc' := 35) rfl ?_
      refine own_goto X12 hx hby d5_35 (by decide) (pc' := 56) (by decide) ?_
      refine own_aloadN X12 hx hby rfl rfl d5_56 (pc' := 57) rfl ?_
      refine own_iloadN X12 hx hby rfl d5_57 (pc' := 58) rfl ?_
      refine own_iloadN X12 hx hby rfl d5_58 (pc' := 59) rfl ?_
      refine own_private X12 hx hby hZ (y := (⟨"com/example/cross_town/crosstown/solve/NodeHeap", "place", "(II)V"⟩ : MethodName)) (rest := []) hown (hw _ (List.mem_of_getElem? (i := 32) rfl)) (hw _ (List.mem_of_getElem? (i := 33) rfl)) (hw _ (List.mem_of_getElem? (i := 2) rfl)) (hw _ (List.mem_of_getElem? (i := 34) rfl)) (hw _ (List.mem_of_getElem? (i := 35) rfl)) (hw _ (List.mem_of_getElem? (i := 3) rfl)) (by decide) (rm61 l Z a0 hw [] o0 p2 heap_o0 position_o0 y0 y1 y2 y1 (P.set y1.toNatClampNeg (3 : Int32)) h8 n0 Z0 E_o0 F_o0_heap F_o0_position V_heap_o0 V_position_o0 (by first | assumption | rfl | (simp only [List.length_set]; first | assumption | rfl)) rg_p2 g_heap_o0 ne_o0_heap_o0 ne_position_o0_heap_o0 g_position_o0 ne_o0_position_o0) eH12 (by rw [hml]; rfl) (a := o0) E_o0 (argsL := [(.int (1 : Int32)), (.int p2)]) rfl (lenOf pd_1 rfl) rfl d5_59 (pc' := 62) rfl (by decide) (W := 0) (Nat.le_of_eq rfl) (by decide) (by decide) (by decide) (fun T14 h14 Lc14 v14r X14 eH14 hQ14 => ?_)
      obtain ⟨rfl, Nq14, Kq14, gq14_0, gq14_1⟩ := hQ14
      have N14 := Fr.app N8 Nq14
      replace E_o0 := E_o0.keep Kq14
      replace F_o0_heap := F_o0_heap.keep Kq14 (ninS ne_o0_heap_o0 (ninS ne_o0_position_o0 nin0))
      replace F_o0_position := F_o0_position.keep Kq14 (ninS ne_o0_heap_o0 (ninS ne_o0_position_o0 nin0))
      replace F_o0_key := F_o0_key.keep Kq14 (ninS ne_o0_heap_o0 (ninS ne_o0_position_o0 nin0))
      replace V_key_o0 := V_key_o0.keep Kq14 (ninS ne_key_o0_heap_o0 (ninS ne_key_o0_position_o0 nin0))
      replace K0 := K0.trans Kq14 (allS (Or.inl (by simp)) (allS (Or.inl (by simp)) all0))
      have V_heap_o0 := gq14_0
      have hl15 : ((P.set y1.toNatClampNeg (3 : Int32)).set p2.toNatClampNeg (1 : Int32)).length = 4 := by (repeat' split) <;> (simp only [List.length_set]; first | assumption | rfl)
      have V_position_o0 := gq14_1
      replace Z0 := Nat.le_trans Z0 Kq14.1
      have o0 := mt (own_kle nnk y1 p2).mpr hc4
      have o1 := (own_kle nnk y0 p2).mp hc13
      have HH : Hp4 y0 p2 y2 y1 ((P.set y1.toNatClampNeg (3 : Int32)).set p2.toNatClampNeg (1 : Int32)) K := ⟨rg_y0, rg_p2, rg_y2, rg_y1, (by rw [own_pvs (by simp only [List.length_set]; exact hl_P) rg_p2 rg_y0, if_neg d_p2_y0, own_pvs hl_P rg_y1 rg_y0, if_neg d_y1_y0]; exact pv_y0), (by rw [own_pvs (by simp only [List.length_set]; exact hl_P) rg_p2 rg_p2, if_pos rfl]; first | done | decide), (by rw [own_pvs (by simp only [List.length_set]; exact hl_P) rg_p2 rg_y2, if_neg d_p2_y2, own_pvs hl_P rg_y1 rg_y2, if_neg d_y1_y2]; exact pv_y2), (by rw [own_pvs (by simp only [List.length_set]; exact hl_P) rg_p2 rg_y1, if_neg d_p2_y1, own_pvs hl_P rg_y1 rg_y1, if_pos rfl]; first | done | decide), (by omega), (by omega), (by omega)⟩
      have HA : ∀ z : Int32, (0 ≤ z.toInt ∧ z.toInt < 4) → ¬ p2.toInt = z.toInt → pv P z = -1 → pv ((P.set y1.toNatClampNeg (3 : Int32)).set p2.toNatClampNeg (1 : Int32)) z = -1 := fun z rgz hpz hz => (by rw [own_pvs (by simp only [List.length_set]; exact hl_P) rg_p2 rgz, if_neg hpz, own_pvs hl_P rg_y1 rgz, if_neg (own_pne pv_y1 hz (by decide))]; exact hz)
      exact own_retV X14 hx hby Bd.notSynchronized Bd.returns d5_62 (by decide) (by decide) eH14 ⟨rfl, N14, K0, (by simp only [if_neg hc4, if_pos hc13]; exact V_position_o0), (by simp only [if_neg hc4, if_pos hc13]; exact V_heap_o0), (by simp only [if_neg hc4, if_pos hc13]; exact HH), (by simp only [if_neg hc4, if_pos hc13]; exact HA)⟩
    · refine own_ifT X12 hx hby d5_32 (own_dg_gt_n hc13) (by decide) (pc' := 38) (by decide) ?_
      refine own_aloadN X12 hx hby rfl rfl d5_38 (pc' := 39) rfl ?_
      refine own_iloadN X12 hx hby rfl d5_39 (pc' := 40) rfl ?_
      refine own_aloadN X12 hx hby rfl rfl d5_40 (pc' := 41) rfl ?_
      refine own_getF X12 hx hby hZ hown (host := "") (Or.inl (hw _ (List.mem_of_getElem? (i := 11) rfl))) Via.refl eH12 F_o0_heap d5_41 (pc' := 44) rfl (fun T16 X16 eH16 => ?_)
      refine own_iload X16 hx hby rfl d5_44 (pc' := 46) rfl ?_
      refine own_iaload X16 hx hby hZ eH16 V_heap_o0 (by decide) (v := (.int y0)) rfl d5_46 (pc' := 47) rfl ?_
      refine own_private X16 hx hby hZ (y := (⟨"com/example/cross_town/crosstown/solve/NodeHeap", "place", "(II)V"⟩ : MethodName)) (rest := []) hown (hw _ (List.mem_of_getElem? (i := 32) rfl)) (hw _ (List.mem_of_getElem? (i := 33) rfl)) (hw _ (List.mem_of_getElem? (i := 2) rfl)) (hw _ (List.mem_of_getElem? (i := 34) rfl)) (hw _ (List.mem_of_getElem? (i := 35) rfl)) (hw _ (List.mem_of_getElem? (i := 3) rfl)) (by decide) (rm61 l Z a0 hw [] o0 y0 heap_o0 position_o0 y0 y1 y2 y1 (P.set y1.toNatClampNeg (3 : Int32)) h8 n0 Z0 E_o0 F_o0_heap F_o0_position V_heap_o0 V_position_o0 (by first | assumption | rfl | (simp only [List.length_set]; first | assumption | rfl)) rg_y0 g_heap_o0 ne_o0_heap_o0 ne_position_o0_heap_o0 g_position_o0 ne_o0_position_o0) eH16 (by rw [hml]; rfl) (a := o0) E_o0 (argsL := [(.int (1 : Int32)), (.int y0)]) rfl (lenOf pd_1 rfl) rfl d5_47 (pc' := 50) rfl (by decide) (W := 0) (Nat.le_of_eq rfl) (by decide) (by decide) (by decide) (fun T17 h17 Lc17 v17r X17 eH17 hQ17 => ?_)
      obtain ⟨rfl, Nq17, Kq17, gq17_0, gq17_1⟩ := hQ17
      have N17 := Fr.app N8 Nq17
      replace E_o0 := E_o0.keep Kq17
      replace F_o0_heap := F_o0_heap.keep Kq17 (ninS ne_o0_heap_o0 (ninS ne_o0_position_o0 nin0))
      replace F_o0_position := F_o0_position.keep Kq17 (ninS ne_o0_heap_o0 (ninS ne_o0_position_o0 nin0))
      replace F_o0_key := F_o0_key.keep Kq17 (ninS ne_o0_heap_o0 (ninS ne_o0_position_o0 nin0))
      replace V_key_o0 := V_key_o0.keep Kq17 (ninS ne_key_o0_heap_o0 (ninS ne_key_o0_position_o0 nin0))
      replace K0 := K0.trans Kq17 (allS (Or.inl (by simp)) (allS (Or.inl (by simp)) all0))
      have V_heap_o0 := gq17_0
      have hl18 : ((P.set y1.toNatClampNeg (3 : Int32)).set y0.toNatClampNeg (1 : Int32)).length = 4 := by (repeat' split) <;> (simp only [List.length_set]; first | assumption | rfl)
      have V_position_o0 := gq17_1
      replace Z0 := Nat.le_trans Z0 Kq17.1
      refine own_iload X17 hx hby rfl d5_50 (pc' := 52) rfl ?_
      refine own_istoreN X17 hx hby (L' := #[.val (.ref o0), .val (.int (3 : Int32)), .val (.int p2), .val (.int (0 : Int32)), .val (.int (0 : Int32))]) rfl d5_52 (pc' := 53) rfl ?_
      refine own_goto X17 hx hby d5_53 (by decide) (pc' := 2) (by decide) ?_
      refine own_iloadN X17 hx hby rfl d5_2 (pc' := 3) rfl ?_
      refine own_ifT X17 hx hby d5_3 (by decide) (by decide) (pc' := 56) (by decide) ?_
      refine own_aloadN X17 hx hby rfl rfl d5_56 (pc' := 57) rfl ?_
      refine own_iloadN X17 hx hby rfl d5_57 (pc' := 58) rfl ?_
      refine own_iloadN X17 hx hby rfl d5_58 (pc' := 59) rfl ?_
      refine own_private X17 hx hby hZ (y := (⟨"com/example/cross_town/crosstown/solve/NodeHeap", "place", "(II)V"⟩ : MethodName)) (rest := []) hown (hw _ (List.mem_of_getElem? (i := 32) rfl)) (hw _ (List.mem_of_getElem? (i := 33) rfl)) (hw _ (List.mem_of_getElem? (i := 2) rfl)) (hw _ (List.mem_of_getElem? (i := 34) rfl)) (hw _ (List.mem_of_getElem? (i := 35) rfl)) (hw _ (List.mem_of_getElem? (i := 3) rfl)) (by decide) (rm60 l Z a0 hw [] o0 p2 heap_o0 position_o0 y0 y0 y2 y1 ((P.set y1.toNatClampNeg (3 : Int32)).set y0.toNatClampNeg (1 : Int32)) h17 n0 Z0 E_o0 F_o0_heap F_o0_position V_heap_o0 V_position_o0 (by first | assumption | rfl | (simp only [List.length_set]; first | assumption | rfl)) rg_p2 g_heap_o0 ne_o0_heap_o0 ne_position_o0_heap_o0 g_position_o0 ne_o0_position_o0) eH17 (by rw [hml]; rfl) (a := o0) E_o0 (argsL := [(.int (0 : Int32)), (.int p2)]) rfl (lenOf pd_1 rfl) rfl d5_59 (pc' := 62) rfl (by decide) (W := 0) (Nat.le_of_eq rfl) (by decide) (by decide) (by decide) (fun T19 h19 Lc19 v19r X19 eH19 hQ19 => ?_)
      obtain ⟨rfl, Nq19, Kq19, gq19_0, gq19_1⟩ := hQ19
      have N19 := Fr.app N17 Nq19
      replace E_o0 := E_o0.keep Kq19
      replace F_o0_heap := F_o0_heap.keep Kq19 (ninS ne_o0_heap_o0 (ninS ne_o0_position_o0 nin0))
      replace F_o0_position := F_o0_position.keep Kq19 (ninS ne_o0_heap_o0 (ninS ne_o0_position_o0 nin0))
      replace F_o0_key := F_o0_key.keep Kq19 (ninS ne_o0_heap_o0 (ninS ne_o0_position_o0 nin0))
      replace V_key_o0 := V_key_o0.keep Kq19 (ninS ne_key_o0_heap_o0 (ninS ne_key_o0_position_o0 nin0))
      replace K0 := K0.trans Kq19 (allS (Or.inl (by simp)) (allS (Or.inl (by simp)) all0))
      have V_heap_o0 := gq19_0
      have hl20 : (((P.set y1.toNatClampNeg (3 : Int32)).set y0.toNatClampNeg (1 : Int32)).set p2.toNatClampNeg (0 : Int32)).length = 4 := by (repeat' split) <;> (simp only [List.length_set]; first | assumption | rfl)
      have V_position_o0 := gq19_1
      replace Z0 := Nat.le_trans Z0 Kq19.1
      have o0 := mt (own_kle nnk y1 p2).mpr hc4
      have o1 := mt (own_kle nnk y0 p2).mpr hc13
      have HH : Hp4 p2 y0 y2 y1 (((P.set y1.toNatClampNeg (3 : Int32)).set y0.toNatClampNeg (1 : Int32)).set p2.toNatClampNeg (0 : Int32)) K := ⟨rg_p2, rg_y0, rg_y2, rg_y1, (by rw [own_pvs (by simp only [List.length_set]; exact hl_P) rg_p2 rg_p2, if_pos rfl]; first | done | decide), (by rw [own_pvs (by simp only [List.length_set]; exact hl_P) rg_p2 rg_y0, if_neg d_p2_y0, own_pvs (by simp only [List.length_set]; exact hl_P) rg_y0 rg_y0, if_pos rfl]; first | done | decide), (by rw [own_pvs (by simp only [List.length_set]; exact hl_P) rg_p2 rg_y2, if_neg d_p2_y2, own_pvs (by simp only [List.length_set]; exact hl_P) rg_y0 rg_y2, if_neg d_y0_y2, own_pvs hl_P rg_y1 rg_y2, if_neg d_y1_y2]; exact pv_y2), (by rw [own_pvs (by simp only [List.length_set]; exact hl_P) rg_p2 rg_y1, if_neg d_p2_y1, own_pvs (by simp only [List.length_set]; exact hl_P) rg_y0 rg_y1, if_neg d_y0_y1, own_pvs hl_P rg_y1 rg_y1, if_pos rfl]; first | done | decide), (by omega), (by omega), (by omega)⟩
      have HA : ∀ z : Int32, (0 ≤ z.toInt ∧ z.toInt < 4) → ¬ p2.toInt = z.toInt → pv P z = -1 → pv (((P.set y1.toNatClampNeg (3 : Int32)).set y0.toNatClampNeg (1 : Int32)).set p2.toNatClampNeg (0 : Int32)) z = -1 := fun z rgz hpz hz => (by rw [own_pvs (by simp only [List.length_set]; exact hl_P) rg_p2 rgz, if_neg hpz, own_pvs (by simp only [List.length_set]; exact hl_P) rg_y0 rgz, if_neg (own_pne pv_y0 hz (by decide)), own_pvs hl_P rg_y1 rgz, if_neg (own_pne pv_y1 hz (by decide))]; exact hz)
      exact own_retV X19 hx hby Bd.notSynchronized Bd.returns d5_62 (by decide) (by decide) eH19 ⟨rfl, N19, K0, (by simp only [if_neg hc4, if_neg hc13]; exact V_position_o0), (by simp only [if_neg hc4, if_neg hc13]; exact V_heap_o0), (by simp only [if_neg hc4, if_neg hc13]; exact HH), (by simp only [if_neg hc4, if_neg hc13]; exact HA)⟩
theorem ef5l40 (m : MethodId) (x0 : Addr) (x2 : Int32) : entryFrame m #[(.ref x0), (.int (0 : Int32)), (.int x2)] 5 = mkF m 0 #[.val (.ref x0), .val (.int (0 : Int32)), .val (.int x2), .unset, .unset] [] := by first | (simp [entryFrame, mkF, argsToLocals, Value.category]; done) | rfl
def Q5l40 (Z : State) (o0 : Addr) (p2 : Int32) (heap_o0 : Addr) (position_o0 : Addr) (key_o0 : Addr) (y1 : Int32) (y2 : Int32) (y3 : Int32) (P : List Int32) (K : List UInt64) (h0 : Heap) (n0 : Nat) (v : Option Value) (h : Heap) (L : List Loc) : Prop := v = none ∧ Fr n0 L ∧ Keep h0 h [position_o0, heap_o0] ∧ Ary tr Z h position_o0 .int ((P.set p2.toNatClampNeg (0 : Int32)).map Value.int) ∧ Ary tr Z h heap_o0 .int [(.int p2), (.int y1), (.int y2), (.int y3)] ∧ (Hp4 p2 y1 y2 y3 (P.set p2.toNatClampNeg (0 : Int32)) K)
set_option maxRecDepth 65536 in
set_option maxHeartbeats 40000000 in
theorem rm5l40 (l : Launch) (Z : State) (a0 : Array Value) (hw : ∀ d ∈ tables_1, d.before a0 Z = true) (ws : List Jvm.Cond) (o0 : Addr) (p2 : Int32) (heap_o0 : Addr) (position_o0 : Addr) (key_o0 : Addr) (y1 : Int32) (y2 : Int32) (y3 : Int32) (P : List Int32) (K : List UInt64) (h0 : Heap) (n0 : Nat) (Z0 : n0 ≤ h0.size) (E_o0 : Exa Z h0 o0 "com/example/cross_town/crosstown/solve/NodeHeap") (F_o0_heap : Fld Z h0 o0 "com/example/cross_town/crosstown/solve/NodeHeap" "heap" "[I" (.ref heap_o0)) (F_o0_position : Fld Z h0 o0 "com/example/cross_town/crosstown/solve/NodeHeap" "position" "[I" (.ref position_o0)) (F_o0_key : Fld Z h0 o0 "com/example/cross_town/crosstown/solve/NodeHeap" "key" "[D" (.ref key_o0)) (V_heap_o0 : Ary tr Z h0 heap_o0 .int [(.int p2), (.int y1), (.int y2), (.int y3)]) (V_position_o0 : Ary tr Z h0 position_o0 .int (P.map Value.int)) (hl_P : (P.length = 4)) (V_key_o0 : Ary tr Z h0 key_o0 .double (K.map Value.double)) (hl_K : (K.length = 4)) (nnk : (NNk K)) (rg_p2 : (0 ≤ p2.toInt ∧ p2.toInt < 4)) (pv_p2 : (pv P p2 = 0)) (rg_y1 : (0 ≤ y1.toInt ∧ y1.toInt < 4)) (pv_y1 : (pv P y1 = 1)) (rg_y2 : (0 ≤ y2.toInt ∧ y2.toInt < 4)) (pv_y2 : (pv P y2 = 2)) (rg_y3 : (0 ≤ y3.toInt ∧ y3.toInt < 4)) (pv_y3 : (pv P y3 = 3)) (ord1 : (kv K p2 ≤ kv K y1)) (ord2 : (kv K p2 ≤ kv K y2)) (ord3 : (kv K y1 ≤ kv K y3)) (g_heap_o0 : n0 ≤ heap_o0) (ne_o0_heap_o0 : o0 ≠ heap_o0) (ne_position_o0_heap_o0 : position_o0 ≠ heap_o0) (g_position_o0 : n0 ≤ position_o0) (ne_o0_position_o0 : o0 ≠ position_o0) (ne_key_o0_position_o0 : key_o0 ≠ position_o0) (ne_key_o0_heap_o0 : key_o0 ≠ heap_o0) :
    MetFree l (⟨"com/example/cross_town/crosstown/solve/NodeHeap", "siftUp", "(II)V"⟩ : MethodName) (head1 (Jvm.Cond.code (⟨"com/example/cross_town/crosstown/solve/NodeHeap", "siftUp", "(II)V"⟩ : MethodName) prog_33_method_5_code 5 none :: ws) ({ frames := 1, cells := 0, slots := 0, locals := 14 } : Room)) (fun a U => a = #[(.ref o0), (.int (0 : Int32)), (.int p2)] ∧ Z.Warmed39 U.vm ∧ U.heap = h0) (fun _ _ _ _ _ => True) (fun _ U o U' => ∃ v L, o = .returned v ∧ Q5l40 Z o0 p2 heap_o0 position_o0 key_o0 y1 y2 y3 P K h0 n0 v U'.heap L ∧ FrameEnd U o U' L ({ frames := 1, cells := 0, slots := 0, locals := 14 } : Room).cells ({ frames := 1, cells := 0, slots := 0, locals := 14 } : Room).slots) := by
  refine MetFree.of_bodySF (plainFor_of_name pn_com_example_cross_town_crosstown_solve_NodeHeap) hisR ?_
  intro p e s m args below meth c s₁ Bd hml0 hP hK
  obtain ⟨rfl, hZ, hh⟩ := hP
  have hx := Bd.exec
  have hby := Bd.bytes
  have hml : c.maxLocals = 5 := hml0
  have hown : s.vm.findClass "com/example/cross_town/crosstown/solve/NodeHeap" = some m.cls := findClass_of_methodNamed Bd.named
  have hnm := (name_of_methodNamed Bd.named Bd.method).1
  have X0 : Stand p l e ({ frames := 1, cells := 0, slots := 0, locals := 14 } : Room) s m #[(.ref o0), (.int (0 : Int32)), (.int p2)] below meth c s₁ [] 0 0 := Stand.of_body Bd
  have eH0 : s₁.heap = h0 := by rw [← hh, Bd.state]; rfl
  have N0 := Fr.nil n0
  have K0 := Keep.refl h0 [position_o0, heap_o0]
  show Gt p.tables e below (fun o U' => ∃ v L, o = .returned v ∧ Q5l40 Z o0 p2 heap_o0 position_o0 key_o0 y1 y2 y3 P K h0 n0 v U'.heap L ∧ FrameEnd s o U' L ({ frames := 1, cells := 0, slots := 0, locals := 14 } : Room).cells ({ frames := 1, cells := 0, slots := 0, locals := 14 } : Room).slots) _
  refine own_cast (ef5l40 m o0 p2) ?_
  have d_p2_y1 : ¬ p2.toInt = y1.toInt := own_pne pv_p2 pv_y1 (by decide)
  have d_p2_y2 : ¬ p2.toInt = y2.toInt := own_pne pv_p2 pv_y2 (by decide)
  have d_p2_y3 : ¬ p2.toInt = y3.toInt := own_pne pv_p2 pv_y3 (by decide)
  have d_y1_p2 : ¬ y1.toInt = p2.toInt := own_pne pv_y1 pv_p2 (by decide)
  have d_y1_y2 : ¬ y1.toInt = y2.toInt := own_pne pv_y1 pv_y2 (by decide)
  have d_y1_y3 : ¬ y1.toInt = y3.toInt := own_pne pv_y1 pv_y3 (by decide)
  have d_y2_p2 : ¬ y2.toInt = p2.toInt := own_pne pv_y2 pv_p2 (by decide)
  have d_y2_y1 : ¬ y2.toInt = y1.toInt := own_pne pv_y2 pv_y1 (by decide)
  have d_y2_y3 : ¬ y2.toInt = y3.toInt := own_pne pv_y2 pv_y3 (by decide)
  have d_y3_p2 : ¬ y3.toInt = p2.toInt := own_pne pv_y3 pv_p2 (by decide)
  have d_y3_y1 : ¬ y3.toInt = y1.toInt := own_pne pv_y3 pv_y1 (by decide)
  have d_y3_y2 : ¬ y3.toInt = y2.toInt := own_pne pv_y3 pv_y2 (by decide)
  refine own_iloadN X0 hx hby rfl d5_0 (pc' := 1) rfl ?_
  refine own_istoreN X0 hx hby (L' := #[.val (.ref o0), .val (.int (0 : Int32)), .val (.int p2), .val (.int (0 : Int32)), .unset]) rfl d5_1 (pc' := 2) rfl ?_
  refine own_iloadN X0 hx hby rfl d5_2 (pc' := 3) rfl ?_
  refine own_ifT X0 hx hby d5_3 (by decide) (by decide) (pc' := 56) (by decide) ?_
  refine own_aloadN X0 hx hby rfl rfl d5_56 (pc' := 57) rfl ?_
  refine own_iloadN X0 hx hby rfl d5_57 (pc' := 58) rfl ?_
  refine own_iloadN X0 hx hby rfl d5_58 (pc' := 59) rfl ?_
  refine own_private X0 hx hby hZ (y := (⟨"com/example/cross_town/crosstown/solve/NodeHeap", "place", "(II)V"⟩ : MethodName)) (rest := []) hown (hw _ (List.mem_of_getElem? (i := 32) rfl)) (hw _ (List.mem_of_getElem? (i := 33) rfl)) (hw _ (List.mem_of_getElem? (i := 2) rfl)) (hw _ (List.mem_of_getElem? (i := 34) rfl)) (hw _ (List.mem_of_getElem? (i := 35) rfl)) (hw _ (List.mem_of_getElem? (i := 3) rfl)) (by decide) (rm60 l Z a0 hw [] o0 p2 heap_o0 position_o0 p2 y1 y2 y3 P h0 n0 Z0 E_o0 F_o0_heap F_o0_position V_heap_o0 V_position_o0 (by first | assumption | rfl | (simp only [List.length_set]; first | assumption | rfl)) rg_p2 g_heap_o0 ne_o0_heap_o0 ne_position_o0_heap_o0 g_position_o0 ne_o0_position_o0) eH0 (by rw [hml]; rfl) (a := o0) E_o0 (argsL := [(.int (0 : Int32)), (.int p2)]) rfl (lenOf pd_1 rfl) rfl d5_59 (pc' := 62) rfl (by decide) (W := 0) (Nat.le_of_eq rfl) (by decide) (by decide) (by decide) (fun T1 h1 Lc1 v1r X1 eH1 hQ1 => ?_)
  obtain ⟨rfl, Nq1, Kq1, gq1_0, gq1_1⟩ := hQ1
  have N1 := Fr.app N0 Nq1
  replace E_o0 := E_o0.keep Kq1
  replace F_o0_heap := F_o0_heap.keep Kq1 (ninS ne_o0_heap_o0 (ninS ne_o0_position_o0 nin0))
  replace F_o0_position := F_o0_position.keep Kq1 (ninS ne_o0_heap_o0 (ninS ne_o0_position_o0 nin0))
  replace F_o0_key := F_o0_key.keep Kq1 (ninS ne_o0_heap_o0 (ninS ne_o0_position_o0 nin0))
  replace V_key_o0 := V_key_o0.keep Kq1 (ninS ne_key_o0_heap_o0 (ninS ne_key_o0_position_o0 nin0))
  replace K0 := K0.trans Kq1 (allS (Or.inl (by simp)) (allS (Or.inl (by simp)) all0))
  have V_heap_o0 := gq1_0
  have hl2 : (P.set p2.toNatClampNeg (0 : Int32)).length = 4 := by (repeat' split) <;> (simp only [List.length_set]; first | assumption | rfl)
  have V_position_o0 := gq1_1
  replace Z0 := Nat.le_trans Z0 Kq1.1
  have HH : Hp4 p2 y1 y2 y3 (P.set p2.toNatClampNeg (0 : Int32)) K := ⟨rg_p2, rg_y1, rg_y2, rg_y3, (by rw [own_pvs hl_P rg_p2 rg_p2, if_pos rfl]; first | done | decide), (by rw [own_pvs hl_P rg_p2 rg_y1, if_neg d_p2_y1]; exact pv_y1), (by rw [own_pvs hl_P rg_p2 rg_y2, if_neg d_p2_y2]; exact pv_y2), (by rw [own_pvs hl_P rg_p2 rg_y3, if_neg d_p2_y3]; exact pv_y3), (by omega), (by omega), (by omega)⟩
  exact own_retV X1 hx hby Bd.notSynchronized Bd.returns d5_62 (by decide) (by decide) eH1 ⟨rfl, N1, K0, V_position_o0, V_heap_o0, HH⟩
theorem ef5l41 (m : MethodId) (x0 : Addr) (x2 : Int32) : entryFrame m #[(.ref x0), (.int (1 : Int32)), (.int x2)] 5 = mkF m 0 #[.val (.ref x0), .val (.int (1 : Int32)), .val (.int x2), .unset, .unset] [] := by first | (simp [entryFrame, mkF, argsToLocals, Value.category]; done) | rfl
def Q5l41 (Z : State) (o0 : Addr) (p2 : Int32) (heap_o0 : Addr) (position_o0 : Addr) (key_o0 : Addr) (y0 : Int32) (y2 : Int32) (y3 : Int32) (P : List Int32) (K : List UInt64) (h0 : Heap) (n0 : Nat) (v : Option Value) (h : Heap) (L : List Loc) : Prop := v = none ∧ Fr n0 L ∧ Keep h0 h [position_o0, heap_o0] ∧ Ary tr Z h position_o0 .int ((if dle (K.getD y0.toNatClampNeg 0) (K.getD p2.toNatClampNeg 0) then (P.set p2.toNatClampNeg (1 : Int32)) else ((P.set y0.toNatClampNeg (1 : Int32)).set p2.toNatClampNeg (0 : Int32))).map Value.int) ∧ Ary tr Z h heap_o0 .int [(.int (if dle (K.getD y0.toNatClampNeg 0) (K.getD p2.toNatClampNeg 0) then y0 else p2)), (.int (if dle (K.getD y0.toNatClampNeg 0) (K.getD p2.toNatClampNeg 0) then p2 else y0)), (.int y2), (.int y3)] ∧ (Hp4 (if dle (K.getD y0.toNatClampNeg 0) (K.getD p2.toNatClampNeg 0) then y0 else p2) (if dle (K.getD y0.toNatClampNeg 0) (K.getD p2.toNatClampNeg 0) then p2 else y0) y2 y3 (if dle (K.getD y0.toNatClampNeg 0) (K.getD p2.toNatClampNeg 0) then (P.set p2.toNatClampNeg (1 : Int32)) else ((P.set y0.toNatClampNeg (1 : Int32)).set p2.toNatClampNeg (0 : Int32))) K)
set_option maxRecDepth 65536 in
set_option maxHeartbeats 40000000 in
theorem rm5l41 (l : Launch) (Z : State) (a0 : Array Value) (hw : ∀ d ∈ tables_1, d.before a0 Z = true) (ws : List Jvm.Cond) (o0 : Addr) (p2 : Int32) (heap_o0 : Addr) (position_o0 : Addr) (key_o0 : Addr) (y0 : Int32) (y2 : Int32) (y3 : Int32) (P : List Int32) (K : List UInt64) (h0 : Heap) (n0 : Nat) (Z0 : n0 ≤ h0.size) (E_o0 : Exa Z h0 o0 "com/example/cross_town/crosstown/solve/NodeHeap") (F_o0_heap : Fld Z h0 o0 "com/example/cross_town/crosstown/solve/NodeHeap" "heap" "[I" (.ref heap_o0)) (F_o0_position : Fld Z h0 o0 "com/example/cross_town/crosstown/solve/NodeHeap" "position" "[I" (.ref position_o0)) (F_o0_key : Fld Z h0 o0 "com/example/cross_town/crosstown/solve/NodeHeap" "key" "[D" (.ref key_o0)) (V_heap_o0 : Ary tr Z h0 heap_o0 .int [(.int y0), (.int p2), (.int y2), (.int y3)]) (V_position_o0 : Ary tr Z h0 position_o0 .int (P.map Value.int)) (hl_P : (P.length = 4)) (V_key_o0 : Ary tr Z h0 key_o0 .double (K.map Value.double)) (hl_K : (K.length = 4)) (nnk : (NNk K)) (rg_y0 : (0 ≤ y0.toInt ∧ y0.toInt < 4)) (pv_y0 : (pv P y0 = 0)) (rg_p2 : (0 ≤ p2.toInt ∧ p2.toInt < 4)) (pv_p2 : (pv P p2 = 1)) (rg_y2 : (0 ≤ y2.toInt ∧ y2.toInt < 4)) (pv_y2 : (pv P y2 = 2)) (rg_y3 : (0 ≤ y3.toInt ∧ y3.toInt < 4)) (pv_y3 : (pv P y3 = 3)) (ord2 : (kv K y0 ≤ kv K y2)) (ord3 : (kv K p2 ≤ kv K y3)) (orc3 : (kv K y0 ≤ kv K y3)) (g_heap_o0 : n0 ≤ heap_o0) (ne_o0_heap_o0 : o0 ≠ heap_o0) (ne_position_o0_heap_o0 : position_o0 ≠ heap_o0) (g_position_o0 : n0 ≤ position_o0) (ne_o0_position_o0 : o0 ≠ position_o0) (ne_key_o0_position_o0 : key_o0 ≠ position_o0) (ne_key_o0_heap_o0 : key_o0 ≠ heap_o0) :
    MetFree l (⟨"com/example/cross_town/crosstown/solve/NodeHeap", "siftUp", "(II)V"⟩ : MethodName) (head1 (Jvm.Cond.code (⟨"com/example/cross_town/crosstown/solve/NodeHeap", "siftUp", "(II)V"⟩ : MethodName) prog_33_method_5_code 5 none :: ws) ({ frames := 1, cells := 0, slots := 0, locals := 14 } : Room)) (fun a U => a = #[(.ref o0), (.int (1 : Int32)), (.int p2)] ∧ Z.Warmed39 U.vm ∧ U.heap = h0) (fun _ _ _ _ _ => True) (fun _ U o U' => ∃ v L, o = .returned v ∧ Q5l41 Z o0 p2 heap_o0 position_o0 key_o0 y0 y2 y3 P K h0 n0 v U'.heap L ∧ FrameEnd U o U' L ({ frames := 1, cells := 0, slots := 0, locals := 14 } : Room).cells ({ frames := 1, cells := 0, slots := 0, locals := 14 } : Room).slots) := by
  refine MetFree.of_bodySF (plainFor_of_name pn_com_example_cross_town_crosstown_solve_NodeHeap) hisR ?_
  intro p e s m args below meth c s₁ Bd hml0 hP hK
  obtain ⟨rfl, hZ, hh⟩ := hP
  have hx := Bd.exec
  have hby := Bd.bytes
  have hml : c.maxLocals = 5 := hml0
  have hown : s.vm.findClass "com/example/cross_town/crosstown/solve/NodeHeap" = some m.cls := findClass_of_methodNamed Bd.named
  have hnm := (name_of_methodNamed Bd.named Bd.method).1
  have X0 : Stand p l e ({ frames := 1, cells := 0, slots := 0, locals := 14 } : Room) s m #[(.ref o0), (.int (1 : Int32)), (.int p2)] below meth c s₁ [] 0 0 := Stand.of_body Bd
  have eH0 : s₁.heap = h0 := by rw [← hh, Bd.state]; rfl
  have N0 := Fr.nil n0
  have K0 := Keep.refl h0 [position_o0, heap_o0]
  show Gt p.tables e below (fun o U' => ∃ v L, o = .returned v ∧ Q5l41 Z o0 p2 heap_o0 position_o0 key_o0 y0 y2 y3 P K h0 n0 v U'.heap L ∧ FrameEnd s o U' L ({ frames := 1, cells := 0, slots := 0, locals := 14 } : Room).cells ({ frames := 1, cells := 0, slots := 0, locals := 14 } : Room).slots) _
  refine own_cast (ef5l41 m o0 p2) ?_
  have d_y0_p2 : ¬ y0.toInt = p2.toInt := own_pne pv_y0 pv_p2 (by decide)
  have d_y0_y2 : ¬ y0.toInt = y2.toInt := own_pne pv_y0 pv_y2 (by decide)
  have d_y0_y3 : ¬ y0.toInt = y3.toInt := own_pne pv_y0 pv_y3 (by decide)
  have d_p2_y0 : ¬ p2.toInt = y0.toInt := own_pne pv_p2 pv_y0 (by decide)
  have d_p2_y2 : ¬ p2.toInt = y2.toInt := own_pne pv_p2 pv_y2 (by decide)
  have d_p2_y3 : ¬ p2.toInt = y3.toInt := own_pne pv_p2 pv_y3 (by decide)
  have d_y2_y0 : ¬ y2.toInt = y0.toInt := own_pne pv_y2 pv_y0 (by decide)
  have d_y2_p2 : ¬ y2.toInt = p2.toInt := own_pne pv_y2 pv_p2 (by decide)
  have d_y2_y3 : ¬ y2.toInt = y3.toInt := own_pne pv_y2 pv_y3 (by decide)
  have d_y3_y0 : ¬ y3.toInt = y0.toInt := own_pne pv_y3 pv_y0 (by decide)
  have d_y3_p2 : ¬ y3.toInt = p2.toInt := own_pne pv_y3 pv_p2 (by decide)
  have d_y3_y2 : ¬ y3.toInt = y2.toInt := own_pne pv_y3 pv_y2 (by decide)
  refine own_iloadN X0 hx hby rfl d5_0 (pc' := 1) rfl ?_
  refine own_istoreN X0 hx hby (L' := #[.val (.ref o0), .val (.int (1 : Int32)), .val (.int p2), .val (.int (1 : Int32)), .unset]) rfl d5_1 (pc' := 2) rfl ?_
  refine own_iloadN X0 hx hby rfl d5_2 (pc' := 3) rfl ?_
  refine own_ifF X0 hx hby d5_3 (by decide) (pc' := 6) rfl ?_
  refine own_iloadN X0 hx hby rfl d5_6 (pc' := 7) rfl ?_
  refine own_iconst X0 hx hby (v := (1 : Int32)) (by decide) d5_7 (pc' := 8) rfl ?_
  refine own_isub X0 hx hby (v := (0 : Int32)) (by decide) d5_8 (pc' := 9) rfl ?_
  refine own_iconst X0 hx hby (v := (2 : Int32)) (by decide) d5_9 (pc' := 10) rfl ?_
  refine own_idiv X0 hx hby (by decide) (v := (0 : Int32)) (by decide) d5_10 (pc' := 11) rfl ?_
  refine own_istore X0 hx hby (L' := #[.val (.ref o0), .val (.int (1 : Int32)), .val (.int p2), .val (.int (1 : Int32)), .val (.int (0 : Int32))]) rfl d5_11 (pc' := 13) rfl ?_
  refine own_aloadN X0 hx hby rfl rfl d5_13 (pc' := 14) rfl ?_
  refine own_getF X0 hx hby hZ hown (host := "") (Or.inl (hw _ (List.mem_of_getElem? (i := 15) rfl))) Via.refl eH0 F_o0_key d5_14 (pc' := 17) rfl (fun T1 X1 eH1 => ?_)
  refine own_aloadN X1 hx hby rfl rfl d5_17 (pc' := 18) rfl ?_
  refine own_getF X1 hx hby hZ hown (host := "") (Or.inl (hw _ (List.mem_of_getElem? (i := 11) rfl))) Via.refl eH1 F_o0_heap d5_18 (pc' := 21) rfl (fun T2 X2 eH2 => ?_)
  refine own_iload X2 hx hby rfl d5_21 (pc' := 23) rfl ?_
  refine own_iaload X2 hx hby hZ eH2 V_heap_o0 (by decide) (v := (.int y0)) rfl d5_23 (pc' := 24) rfl ?_
  refine own_daload X2 hx hby hZ eH2 V_key_o0 (own_rg0 rg_y0) (v := (.double (K.getD y0.toNatClampNeg 0))) (own_lget (own_rgl rg_y0 hl_K)) d5_24 (pc' := 25) rfl ?_
  refine own_aloadN X2 hx hby rfl rfl d5_25 (pc' := 26) rfl ?_
  refine own_getF X2 hx hby hZ hown (host := "") (Or.inl (hw _ (List.mem_of_getElem? (i := 15) rfl))) Via.refl eH2 F_o0_key d5_26 (pc' := 29) rfl (fun T3 X3 eH3 => ?_)
  refine own_iloadN X3 hx hby rfl d5_29 (pc' := 30) rfl ?_
  refine own_daload X3 hx hby hZ eH3 V_key_o0 (own_rg0 rg_p2) (v := (.double (K.getD p2.toNatClampNeg 0))) (own_lget (own_rgl rg_p2 hl_K)) d5_30 (pc' := 31) rfl ?_
  refine own_dcmp X3 hx hby rfl d5_31 (pc' := 32) rfl ?_
  by_cases hc4 : dle (K.getD y0.toNatClampNeg 0) (K.getD p2.toNatClampNeg 0)
  · refine own_ifF X3 hx hby d5_32 (own_dg_gt_p hc4) (pc' := 35) rfl ?_
    refine own_goto X3 hx hby d5_35 (by decide) (pc' := 56) (by decide) ?_
    refine own_aloadN X3 hx hby rfl rfl d5_56 (pc' := 57) rfl ?_
    refine own_iloadN X3 hx hby rfl d5_57 (pc' := 58) rfl ?_
    refine own_iloadN X3 hx hby rfl d5_58 (pc' := 59) rfl ?_
    refine own_private X3 hx hby hZ (y := (⟨"com/example/cross_town/crosstown/solve/NodeHeap", "place", "(II)V"⟩ : MethodName)) (rest := []) hown (hw _ (List.mem_of_getElem? (i := 32) rfl)) (hw _ (List.mem_of_getElem? (i := 33) rfl)) (hw _ (List.mem_of_getElem? (i := 2) rfl)) (hw _ (List.mem_of_getElem? (i := 34) rfl)) (hw _ (List.mem_of_getElem? (i := 35) rfl)) (hw _ (List.mem_of_getElem? (i := 3) rfl)) (by decide) (rm61 l Z a0 hw [] o0 p2 heap_o0 position_o0 y0 p2 y2 y3 P h0 n0 Z0 E_o0 F_o0_heap F_o0_position V_heap_o0 V_position_o0 (by first | assumption | rfl | (simp only [List.length_set]; first | assumption | rfl)) rg_p2 g_heap_o0 ne_o0_heap_o0 ne_position_o0_heap_o0 g_position_o0 ne_o0_position_o0) eH3 (by rw [hml]; rfl) (a := o0) E_o0 (argsL := [(.int (1 : Int32)), (.int p2)]) rfl (lenOf pd_1 rfl) rfl d5_59 (pc' := 62) rfl (by decide) (W := 0) (Nat.le_of_eq rfl) (by decide) (by decide) (by decide) (fun T5 h5 Lc5 v5r X5 eH5 hQ5 => ?_)
    obtain ⟨rfl, Nq5, Kq5, gq5_0, gq5_1⟩ := hQ5
    have N5 := Fr.app N0 Nq5
    replace E_o0 := E_o0.keep Kq5
    replace F_o0_heap := F_o0_heap.keep Kq5 (ninS ne_o0_heap_o0 (ninS ne_o0_position_o0 nin0))
    replace F_o0_position := F_o0_position.keep Kq5 (ninS ne_o0_heap_o0 (ninS ne_o0_position_o0 nin0))
    replace F_o0_key := F_o0_key.keep Kq5 (ninS ne_o0_heap_o0 (ninS ne_o0_position_o0 nin0))
    replace V_key_o0 := V_key_o0.keep Kq5 (ninS ne_key_o0_heap_o0 (ninS ne_key_o0_position_o0 nin0))
    replace K0 := K0.trans Kq5 (allS (Or.inl (by simp)) (allS (Or.inl (by simp)) all0))
    have V_heap_o0 := gq5_0
    have hl6 : (P.set p2.toNatClampNeg (1 : Int32)).length = 4 := by (repeat' split) <;> (simp only [List.length_set]; first | assumption | rfl)
    have V_position_o0 := gq5_1
    replace Z0 := Nat.le_trans Z0 Kq5.1
    have o0 := (own_kle nnk y0 p2).mp hc4
    have HH : Hp4 y0 p2 y2 y3 (P.set p2.toNatClampNeg (1 : Int32)) K := ⟨rg_y0, rg_p2, rg_y2, rg_y3, (by rw [own_pvs hl_P rg_p2 rg_y0, if_neg d_p2_y0]; exact pv_y0), (by rw [own_pvs hl_P rg_p2 rg_p2, if_pos rfl]; first | done | decide), (by rw [own_pvs hl_P rg_p2 rg_y2, if_neg d_p2_y2]; exact pv_y2), (by rw [own_pvs hl_P rg_p2 rg_y3, if_neg d_p2_y3]; exact pv_y3), (by omega), (by omega), (by omega)⟩
    exact own_retV X5 hx hby Bd.notSynchronized Bd.returns d5_62 (by decide) (by decide) eH5 ⟨rfl, N5, K0, (by simp only [if_pos hc4]; exact V_position_o0), (by simp only [if_pos hc4]; exact V_heap_o0), (by simp only [if_pos hc4]; exact HH)⟩
  · refine own_ifT X3 hx hby d5_32 (own_dg_gt_n hc4) (by decide) (pc' := 38) (by decide) ?_
    refine own_aloadN X3 hx hby rfl rfl d5_38 (pc' := 39) rfl ?_
    refine own_iloadN X3 hx hby rfl d5_39 (pc' := 40) rfl ?_
    refine own_aloadN X3 hx hby rfl rfl d5_40 (pc' := 41) rfl ?_
    refine own_getF X3 hx hby hZ hown (host := "") (Or.inl (hw _ (List.mem_of_getElem? (i := 11) rfl))) Via.refl eH3 F_o0_heap d5_41 (pc' := 44) rfl (fun T7 X7 eH7 => ?_)
    refine own_iload X7 hx hby rfl d5_44 (pc' := 46) rfl ?_
    refine own_iaload X7 hx hby hZ eH7 V_heap_o0 (by decide) (v := (.int y0)) rfl d5_46 (pc' := 47) rfl ?_
    refine own_private X7 hx hby hZ (y := (⟨"com/example/cross_town/crosstown/solve/NodeHeap", "place", "(II)V"⟩ : MethodName)) (rest := []) hown (hw _ (List.mem_of_getElem? (i := 32) rfl)) (hw _ (List.mem_of_getElem? (i := 33) rfl)) (hw _ (List.mem_of_getElem? (i := 2) rfl)) (hw _ (List.mem_of_getElem? (i := 34) rfl)) (hw _ (List.mem_of_getElem? (i := 35) rfl)) (hw _ (List.mem_of_getElem? (i := 3) rfl)) (by decide) (rm61 l Z a0 hw [] o0 y0 heap_o0 position_o0 y0 p2 y2 y3 P h0 n0 Z0 E_o0 F_o0_heap F_o0_position V_heap_o0 V_position_o0 (by first | assumption | rfl | (simp only [List.length_set]; first | assumption | rfl)) rg_y0 g_heap_o0 ne_o0_heap_o0 ne_position_o0_heap_o0 g_position_o0 ne_o0_position_o0) eH7 (by rw [hml]; rfl) (a := o0) E_o0 (argsL := [(.int (1 : Int32)), (.int y0)]) rfl (lenOf pd_1 rfl) rfl d5_47 (pc' := 50) rfl (by decide) (W := 0) (Nat.le_of_eq rfl) (by decide) (by decide) (by decide) (fun T8 h8 Lc8 v8r X8 eH8 hQ8 => ?_)
    obtain ⟨rfl, Nq8, Kq8, gq8_0, gq8_1⟩ := hQ8
    have N8 := Fr.app N0 Nq8
    replace E_o0 := E_o0.keep Kq8
    replace F_o0_heap := F_o0_heap.keep Kq8 (ninS ne_o0_heap_o0 (ninS ne_o0_position_o0 nin0))
    replace F_o0_position := F_o0_position.keep Kq8 (ninS ne_o0_heap_o0 (ninS ne_o0_position_o0 nin0))
    replace F_o0_key := F_o0_key.keep Kq8 (ninS ne_o0_heap_o0 (ninS ne_o0_position_o0 nin0))
    replace V_key_o0 := V_key_o0.keep Kq8 (ninS ne_key_o0_heap_o0 (ninS ne_key_o0_position_o0 nin0))
    replace K0 := K0.trans Kq8 (allS (Or.inl (by simp)) (allS (Or.inl (by simp)) all0))
    have V_heap_o0 := gq8_0
    have hl9 : (P.set y0.toNatClampNeg (1 : Int32)).length = 4 := by (repeat' split) <;> (simp only [List.length_set]; first | assumption | rfl)
    have V_position_o0 := gq8_1
    replace Z0 := Nat.le_trans Z0 Kq8.1
    refine own_iload X8 hx hby rfl d5_50 (pc' := 52) rfl ?_
    refine own_istoreN X8 hx hby (L' := #[.val (.ref o0), .val (.int (1 : Int32)), .val (.int p2), .val (.int (0 : Int32)), .val (.int (0 : Int32))]) rfl d5_52 (pc' := 53) rfl ?_
    refine own_goto X8 hx hby d5_53 (by decide) (pc' := 2) (by decide) ?_
    refine own_iloadN X8 hx hby rfl d5_2 (pc' := 3) rfl ?_
    refine own_ifT X8 hx hby d5_3 (by decide) (by decide) (pc' := 56) (by decide) ?_
    refine own_aloadN X8 hx hby rfl rfl d5_56 (pc' := 57) rfl ?_
    refine own_iloadN X8 hx hby rfl d5_57 (pc' := 58) rfl ?_
    refine own_iloadN X8 hx hby rfl d5_58 (pc' := 59) rfl ?_
    refine own_private X8 hx hby hZ (y := (⟨"com/example/cross_town/crosstown/solve/NodeHeap", "place", "(II)V"⟩ : MethodName)) (rest := []) hown (hw _ (List.mem_of_getElem? (i := 32) rfl)) (hw _ (List.mem_of_getElem? (i := 33) rfl)) (hw _ (List.mem_of_getElem? (i := 2) rfl)) (hw _ (List.mem_of_getElem? (i := 34) rfl)) (hw _ (List.mem_of_getElem? (i := 35) rfl)) (hw _ (List.mem_of_getElem? (i := 3) rfl)) (by decide) (rm60 l Z a0 hw [] o0 p2 heap_o0 position_o0 y0 y0 y2 y3 (P.set y0.toNatClampNeg (1 : Int32)) h8 n0 Z0 E_o0 F_o0_heap F_o0_position V_heap_o0 V_position_o0 (by first | assumption | rfl | (simp only [List.length_set]; first | assumption | rfl)) rg_p2 g_heap_o0 ne_o0_heap_o0 ne_position_o0_heap_o0 g_position_o0 ne_o0_position_o0) eH8 (by rw [hml]; rfl) (a := o0) E_o0 (argsL := [(.int (0 : Int32)), (.int p2)]) rfl (lenOf pd_1 rfl) rfl d5_59 (pc' := 62) rfl (by decide) (W := 0) (Nat.le_of_eq rfl) (by decide) (by decide) (by decide) (fun T10 h10 Lc10 v10r X10 eH10 hQ10 => ?_)
    obtain ⟨rfl, Nq10, Kq10, gq10_0, gq10_1⟩ := hQ10
    have N10 := Fr.app N8 Nq10
    replace E_o0 := E_o0.keep Kq10
    replace F_o0_heap := F_o0_heap.keep Kq10 (ninS ne_o0_heap_o0 (ninS ne_o0_position_o0 nin0))
    replace F_o0_position := F_o0_position.keep Kq10 (ninS ne_o0_heap_o0 (ninS ne_o0_position_o0 nin0))
    replace F_o0_key := F_o0_key.keep Kq10 (ninS ne_o0_heap_o0 (ninS ne_o0_position_o0 nin0))
    replace V_key_o0 := V_key_o0.keep Kq10 (ninS ne_key_o0_heap_o0 (ninS ne_key_o0_position_o0 nin0))
    replace K0 := K0.trans Kq10 (allS (Or.inl (by simp)) (allS (Or.inl (by simp)) all0))
    have V_heap_o0 := gq10_0
    have hl11 : ((P.set y0.toNatClampNeg (1 : Int32)).set p2.toNatClampNeg (0 : Int32)).length = 4 := by (repeat' split) <;> (simp only [List.length_set]; first | assumption | rfl)
    have V_position_o0 := gq10_1
    replace Z0 := Nat.le_trans Z0 Kq10.1
    have o0 := mt (own_kle nnk y0 p2).mpr hc4
    have HH : Hp4 p2 y0 y2 y3 ((P.set y0.toNatClampNeg (1 : Int32)).set p2.toNatClampNeg (0 : Int32)) K := ⟨rg_p2, rg_y0, rg_y2, rg_y3, (by rw [own_pvs (by simp only [List.length_set]; exact hl_P) rg_p2 rg_p2, if_pos rfl]; first | done | decide), (by rw [own_pvs (by simp only [List.length_set]; exact hl_P) rg_p2 rg_y0, if_neg d_p2_y0, own_pvs hl_P rg_y0 rg_y0, if_pos rfl]; first | done | decide), (by rw [own_pvs (by simp only [List.length_set]; exact hl_P) rg_p2 rg_y2, if_neg d_p2_y2, own_pvs hl_P rg_y0 rg_y2, if_neg d_y0_y2]; exact pv_y2), (by rw [own_pvs (by simp only [List.length_set]; exact hl_P) rg_p2 rg_y3, if_neg d_p2_y3, own_pvs hl_P rg_y0 rg_y3, if_neg d_y0_y3]; exact pv_y3), (by omega), (by omega), (by omega)⟩
    exact own_retV X10 hx hby Bd.notSynchronized Bd.returns d5_62 (by decide) (by decide) eH10 ⟨rfl, N10, K0, (by simp only [if_neg hc4]; exact V_position_o0), (by simp only [if_neg hc4]; exact V_heap_o0), (by simp only [if_neg hc4]; exact HH)⟩
theorem ef5l42 (m : MethodId) (x0 : Addr) (x2 : Int32) : entryFrame m #[(.ref x0), (.int (2 : Int32)), (.int x2)] 5 = mkF m 0 #[.val (.ref x0), .val (.int (2 : Int32)), .val (.int x2), .unset, .unset] [] := by first | (simp [entryFrame, mkF, argsToLocals, Value.category]; done) | rfl
def Q5l42 (Z : State) (o0 : Addr) (p2 : Int32) (heap_o0 : Addr) (position_o0 : Addr) (key_o0 : Addr) (y0 : Int32) (y1 : Int32) (y3 : Int32) (P : List Int32) (K : List UInt64) (h0 : Heap) (n0 : Nat) (v : Option Value) (h : Heap) (L : List Loc) : Prop := v = none ∧ Fr n0 L ∧ Keep h0 h [position_o0, heap_o0] ∧ Ary tr Z h position_o0 .int ((if dle (K.getD y0.toNatClampNeg 0) (K.getD p2.toNatClampNeg 0) then (P.set p2.toNatClampNeg (2 : Int32)) else ((P.set y0.toNatClampNeg (2 : Int32)).set p2.toNatClampNeg (0 : Int32))).map Value.int) ∧ Ary tr Z h heap_o0 .int [(.int (if dle (K.getD y0.toNatClampNeg 0) (K.getD p2.toNatClampNeg 0) then y0 else p2)), (.int y1), (.int (if dle (K.getD y0.toNatClampNeg 0) (K.getD p2.toNatClampNeg 0) then p2 else y0)), (.int y3)] ∧ (Hp4 (if dle (K.getD y0.toNatClampNeg 0) (K.getD p2.toNatClampNeg 0) then y0 else p2) y1 (if dle (K.getD y0.toNatClampNeg 0) (K.getD p2.toNatClampNeg 0) then p2 else y0) y3 (if dle (K.getD y0.toNatClampNeg 0) (K.getD p2.toNatClampNeg 0) then (P.set p2.toNatClampNeg (2 : Int32)) else ((P.set y0.toNatClampNeg (2 : Int32)).set p2.toNatClampNeg (0 : Int32))) K)
set_option maxRecDepth 65536 in
set_option maxHeartbeats 40000000 in
theorem rm5l42 (l : Launch) (Z : State) (a0 : Array Value) (hw : ∀ d ∈ tables_1, d.before a0 Z = true) (ws : List Jvm.Cond) (o0 : Addr) (p2 : Int32) (heap_o0 : Addr) (position_o0 : Addr) (key_o0 : Addr) (y0 : Int32) (y1 : Int32) (y3 : Int32) (P : List Int32) (K : List UInt64) (h0 : Heap) (n0 : Nat) (Z0 : n0 ≤ h0.size) (E_o0 : Exa Z h0 o0 "com/example/cross_town/crosstown/solve/NodeHeap") (F_o0_heap : Fld Z h0 o0 "com/example/cross_town/crosstown/solve/NodeHeap" "heap" "[I" (.ref heap_o0)) (F_o0_position : Fld Z h0 o0 "com/example/cross_town/crosstown/solve/NodeHeap" "position" "[I" (.ref position_o0)) (F_o0_key : Fld Z h0 o0 "com/example/cross_town/crosstown/solve/NodeHeap" "key" "[D" (.ref key_o0)) (V_heap_o0 : Ary tr Z h0 heap_o0 .int [(.int y0), (.int y1), (.int p2), (.int y3)]) (V_position_o0 : Ary tr Z h0 position_o0 .int (P.map Value.int)) (hl_P : (P.length = 4)) (V_key_o0 : Ary tr Z h0 key_o0 .double (K.map Value.double)) (hl_K : (K.length = 4)) (nnk : (NNk K)) (rg_y0 : (0 ≤ y0.toInt ∧ y0.toInt < 4)) (pv_y0 : (pv P y0 = 0)) (rg_y1 : (0 ≤ y1.toInt ∧ y1.toInt < 4)) (pv_y1 : (pv P y1 = 1)) (rg_p2 : (0 ≤ p2.toInt ∧ p2.toInt < 4)) (pv_p2 : (pv P p2 = 2)) (rg_y3 : (0 ≤ y3.toInt ∧ y3.toInt < 4)) (pv_y3 : (pv P y3 = 3)) (ord1 : (kv K y0 ≤ kv K y1)) (ord3 : (kv K y1 ≤ kv K y3)) (g_heap_o0 : n0 ≤ heap_o0) (ne_o0_heap_o0 : o0 ≠ heap_o0) (ne_position_o0_heap_o0 : position_o0 ≠ heap_o0) (g_position_o0 : n0 ≤ position_o0) (ne_o0_position_o0 : o0 ≠ position_o0) (ne_key_o0_position_o0 : key_o0 ≠ position_o0) (ne_key_o0_heap_o0 : key_o0 ≠ heap_o0) :
    MetFree l (⟨"com/example/cross_town/crosstown/solve/NodeHeap", "siftUp", "(II)V"⟩ : MethodName) (head1 (Jvm.Cond.code (⟨"com/example/cross_town/crosstown/solve/NodeHeap", "siftUp", "(II)V"⟩ : MethodName) prog_33_method_5_code 5 none :: ws) ({ frames := 1, cells := 0, slots := 0, locals := 14 } : Room)) (fun a U => a = #[(.ref o0), (.int (2 : Int32)), (.int p2)] ∧ Z.Warmed39 U.vm ∧ U.heap = h0) (fun _ _ _ _ _ => True) (fun _ U o U' => ∃ v L, o = .returned v ∧ Q5l42 Z o0 p2 heap_o0 position_o0 key_o0 y0 y1 y3 P K h0 n0 v U'.heap L ∧ FrameEnd U o U' L ({ frames := 1, cells := 0, slots := 0, locals := 14 } : Room).cells ({ frames := 1, cells := 0, slots := 0, locals := 14 } : Room).slots) := by
  refine MetFree.of_bodySF (plainFor_of_name pn_com_example_cross_town_crosstown_solve_NodeHeap) hisR ?_
  intro p e s m args below meth c s₁ Bd hml0 hP hK
  obtain ⟨rfl, hZ, hh⟩ := hP
  have hx := Bd.exec
  have hby := Bd.bytes
  have hml : c.maxLocals = 5 := hml0
  have hown : s.vm.findClass "com/example/cross_town/crosstown/solve/NodeHeap" = some m.cls := findClass_of_methodNamed Bd.named
  have hnm := (name_of_methodNamed Bd.named Bd.method).1
  have X0 : Stand p l e ({ frames := 1, cells := 0, slots := 0, locals := 14 } : Room) s m #[(.ref o0), (.int (2 : Int32)), (.int p2)] below meth c s₁ [] 0 0 := Stand.of_body Bd
  have eH0 : s₁.heap = h0 := by rw [← hh, Bd.state]; rfl
  have N0 := Fr.nil n0
  have K0 := Keep.refl h0 [position_o0, heap_o0]
  show Gt p.tables e below (fun o U' => ∃ v L, o = .returned v ∧ Q5l42 Z o0 p2 heap_o0 position_o0 key_o0 y0 y1 y3 P K h0 n0 v U'.heap L ∧ FrameEnd s o U' L ({ frames := 1, cells := 0, slots := 0, locals := 14 } : Room).cells ({ frames := 1, cells := 0, slots := 0, locals := 14 } : Room).slots) _
  refine own_cast (ef5l42 m o0 p2) ?_
  have d_y0_y1 : ¬ y0.toInt = y1.toInt := own_pne pv_y0 pv_y1 (by decide)
  have d_y0_p2 : ¬ y0.toInt = p2.toInt := own_pne pv_y0 pv_p2 (by decide)
  have d_y0_y3 : ¬ y0.toInt = y3.toInt := own_pne pv_y0 pv_y3 (by decide)
  have d_y1_y0 : ¬ y1.toInt = y0.toInt := own_pne pv_y1 pv_y0 (by decide)
  have d_y1_p2 : ¬ y1.toInt = p2.toInt := own_pne pv_y1 pv_p2 (by decide)
  have d_y1_y3 : ¬ y1.toInt = y3.toInt := own_pne pv_y1 pv_y3 (by decide)
  have d_p2_y0 : ¬ p2.toInt = y0.toInt := own_pne pv_p2 pv_y0 (by decide)
  have d_p2_y1 : ¬ p2.toInt = y1.toInt := own_pne pv_p2 pv_y1 (by decide)
  have d_p2_y3 : ¬ p2.toInt = y3.toInt := own_pne pv_p2 pv_y3 (by decide)
  have d_y3_y0 : ¬ y3.toInt = y0.toInt := own_pne pv_y3 pv_y0 (by decide)
  have d_y3_y1 : ¬ y3.toInt = y1.toInt := own_pne pv_y3 pv_y1 (by decide)
  have d_y3_p2 : ¬ y3.toInt = p2.toInt := own_pne pv_y3 pv_p2 (by decide)
  refine own_iloadN X0 hx hby rfl d5_0 (pc' := 1) rfl ?_
  refine own_istoreN X0 hx hby (L' := #[.val (.ref o0), .val (.int (2 : Int32)), .val (.int p2), .val (.int (2 : Int32)), .unset]) rfl d5_1 (pc' := 2) rfl ?_
  refine own_iloadN X0 hx hby rfl d5_2 (pc' := 3) rfl ?_
  refine own_ifF X0 hx hby d5_3 (by decide) (pc' := 6) rfl ?_
  refine own_iloadN X0 hx hby rfl d5_6 (pc' := 7) rfl ?_
  refine own_iconst X0 hx hby (v := (1 : Int32)) (by decide) d5_7 (pc' := 8) rfl ?_
  refine own_isub X0 hx hby (v := (1 : Int32)) (by decide) d5_8 (pc' := 9) rfl ?_
  refine own_iconst X0 hx hby (v := (2 : Int32)) (by decide) d5_9 (pc' := 10) rfl ?_
  refine own_idiv X0 hx hby (by decide) (v := (0 : Int32)) (by decide) d5_10 (pc' := 11) rfl ?_
  refine own_istore X0 hx hby (L' := #[.val (.ref o0), .val (.int (2 : Int32)), .val (.int p2), .val (.int (2 : Int32)), .val (.int (0 : Int32))]) rfl d5_11 (pc' := 13) rfl ?_
  refine own_aloadN X0 hx hby rfl rfl d5_13 (pc' := 14) rfl ?_
  refine own_getF X0 hx hby hZ hown (host := "") (Or.inl (hw _ (List.mem_of_getElem? (i := 15) rfl))) Via.refl eH0 F_o0_key d5_14 (pc' := 17) rfl (fun T1 X1 eH1 => ?_)
  refine own_aloadN X1 hx hby rfl rfl d5_17 (pc' := 18) rfl ?_
  refine own_getF X1 hx hby hZ hown (host := "") (Or.inl (hw _ (List.mem_of_getElem? (i := 11) rfl))) Via.refl eH1 F_o0_heap d5_18 (pc' := 21) rfl (fun T2 X2 eH2 => ?_)
  refine own_iload X2 hx hby rfl d5_21 (pc' := 23) rfl ?_
  refine own_iaload X2 hx hby hZ eH2 V_heap_o0 (by decide) (v := (.int y0)) rfl d5_23 (pc' := 24) rfl ?_
  refine own_daload X2 hx hby hZ eH2 V_key_o0 (own_rg0 rg_y0) (v := (.double (K.getD y0.toNatClampNeg 0))) (own_lget (own_rgl rg_y0 hl_K)) d5_24 (pc' := 25) rfl ?_
  refine own_aloadN X2 hx hby rfl rfl d5_25 (pc' := 26) rfl ?_
  refine own_getF X2 hx hby hZ hown (host := "") (Or.inl (hw _ (List.mem_of_getElem? (i := 15) rfl))) Via.refl eH2 F_o0_key d5_26 (pc' := 29) rfl (fun T3 X3 eH3 => ?_)
  refine own_iloadN X3 hx hby rfl d5_29 (pc' := 30) rfl ?_
  refine own_daload X3 hx hby hZ eH3 V_key_o0 (own_rg0 rg_p2) (v := (.double (K.getD p2.toNatClampNeg 0))) (own_lget (own_rgl rg_p2 hl_K)) d5_30 (pc' := 31) rfl ?_
  refine own_dcmp X3 hx hby rfl d5_31 (pc' := 32) rfl ?_
  by_cases hc4 : dle (K.getD y0.toNatClampNeg 0) (K.getD p2.toNatClampNeg 0)
  · refine own_ifF X3 hx hby d5_32 (own_dg_gt_p hc4) (pc' := 35) rfl ?_
    refine own_goto X3 hx hby d5_35 (by decide) (pc' := 56) (by decide) ?_
    refine own_aloadN X3 hx hby rfl rfl d5_56 (pc' := 57) rfl ?_
    refine own_iloadN X3 hx hby rfl d5_57 (pc' := 58) rfl ?_
    refine own_iloadN X3 hx hby rfl d5_58 (pc' := 59) rfl ?_
    refine own_private X3 hx hby hZ (y := (⟨"com/example/cross_town/crosstown/solve/NodeHeap", "place", "(II)V"⟩ : MethodName)) (rest := []) hown (hw _ (List.mem_of_getElem? (i := 32) rfl)) (hw _ (List.mem_of_getElem? (i := 33) rfl)) (hw _ (List.mem_of_getElem? (i := 2) rfl)) (hw _ (List.mem_of_getElem? (i := 34) rfl)) (hw _ (List.mem_of_getElem? (i := 35) rfl)) (hw _ (List.mem_of_getElem? (i := 3) rfl)) (by decide) (rm62 l Z a0 hw [] o0 p2 heap_o0 position_o0 y0 y1 p2 y3 P h0 n0 Z0 E_o0 F_o0_heap F_o0_position V_heap_o0 V_position_o0 (by first | assumption | rfl | (simp only [List.length_set]; first | assumption | rfl)) rg_p2 g_heap_o0 ne_o0_heap_o0 ne_position_o0_heap_o0 g_position_o0 ne_o0_position_o0) eH3 (by rw [hml]; rfl) (a := o0) E_o0 (argsL := [(.int (2 : Int32)), (.int p2)]) rfl (lenOf pd_1 rfl) rfl d5_59 (pc' := 62) rfl (by decide) (W := 0) (Nat.le_of_eq rfl) (by decide) (by decide) (by decide) (fun T5 h5 Lc5 v5r X5 eH5 hQ5 => ?_)
    obtain ⟨rfl, Nq5, Kq5, gq5_0, gq5_1⟩ := hQ5
    have N5 := Fr.app N0 Nq5
    replace E_o0 := E_o0.keep Kq5
    replace F_o0_heap := F_o0_heap.keep Kq5 (ninS ne_o0_heap_o0 (ninS ne_o0_position_o0 nin0))
    replace F_o0_position := F_o0_position.keep Kq5 (ninS ne_o0_heap_o0 (ninS ne_o0_position_o0 nin0))
    replace F_o0_key := F_o0_key.keep Kq5 (ninS ne_o0_heap_o0 (ninS ne_o0_position_o0 nin0))
    replace V_key_o0 := V_key_o0.keep Kq5 (ninS ne_key_o0_heap_o0 (ninS ne_key_o0_position_o0 nin0))
    replace K0 := K0.trans Kq5 (allS (Or.inl (by simp)) (allS (Or.inl (by simp)) all0))
    have V_heap_o0 := gq5_0
    have hl6 : (P.set p2.toNatClampNeg (2 : Int32)).length = 4 := by (repeat' split) <;> (simp only [List.length_set]; first | assumption | rfl)
    have V_position_o0 := gq5_1
    replace Z0 := Nat.le_trans Z0 Kq5.1
    have o0 := (own_kle nnk y0 p2).mp hc4
    have HH : Hp4 y0 y1 p2 y3 (P.set p2.toNatClampNeg (2 : Int32)) K := ⟨rg_y0, rg_y1, rg_p2, rg_y3, (by rw [own_pvs hl_P rg_p2 rg_y0, if_neg d_p2_y0]; exact pv_y0), (by rw [own_pvs hl_P rg_p2 rg_y1, if_neg d_p2_y1]; exact pv_y1), (by rw [own_pvs hl_P rg_p2 rg_p2, if_pos rfl]; first | done | decide), (by rw [own_pvs hl_P rg_p2 rg_y3, if_neg d_p2_y3]; exact pv_y3), (by omega), (by omega), (by omega)⟩
    exact own_retV X5 hx hby Bd.notSynchronized Bd.returns d5_62 (by decide) (by decide) eH5 ⟨rfl, N5, K0, (by simp only [if_pos hc4]; exact V_position_o0), (by simp only [if_pos hc4]; exact V_heap_o0), (by simp only [if_pos hc4]; exact HH)⟩
  · refine own_ifT X3 hx hby d5_32 (own_dg_gt_n hc4) (by decide) (pc' := 38) (by decide) ?_
    refine own_aloadN X3 hx hby rfl rfl d5_38 (pc' := 39) rfl ?_
    refine own_iloadN X3 hx hby rfl d5_39 (pc' := 40) rfl ?_
    refine own_aloadN X3 hx hby rfl rfl d5_40 (pc' := 41) rfl ?_
    refine own_getF X3 hx hby hZ hown (host := "") (Or.inl (hw _ (List.mem_of_getElem? (i := 11) rfl))) Via.refl eH3 F_o0_heap d5_41 (pc' := 44) rfl (fun T7 X7 eH7 => ?_)
    refine own_iload X7 hx hby rfl d5_44 (pc' := 46) rfl ?_
    refine own_iaload X7 hx hby hZ eH7 V_heap_o0 (by decide) (v := (.int y0)) rfl d5_46 (pc' := 47) rfl ?_
    refine own_private X7 hx hby hZ (y := (⟨"com/example/cross_town/crosstown/solve/NodeHeap", "place", "(II)V"⟩ : MethodName)) (rest := []) hown (hw _ (List.mem_of_getElem? (i := 32) rfl)) (hw _ (List.mem_of_getElem? (i := 33) rfl)) (hw _ (List.mem_of_getElem? (i := 2) rfl)) (hw _ (List.mem_of_getElem? (i := 34) rfl)) (hw _ (List.mem_of_getElem? (i := 35) rfl)) (hw _ (List.mem_of_getElem? (i := 3) rfl)) (by decide) (rm62 l Z a0 hw [] o0 y0 heap_o0 position_o0 y0 y1 p2 y3 P h0 n0 Z0 E_o0 F_o0_heap F_o0_position V_heap_o0 V_position_o0 (by first | assumption | rfl | (simp only [List.length_set]; first | assumption | rfl)) rg_y0 g_heap_o0 ne_o0_heap_o0 ne_position_o0_heap_o0 g_position_o0 ne_o0_position_o0) eH7 (by rw [hml]; rfl) (a := o0) E_o0 (argsL := [(.int (2 : Int32)), (.int y0)]) rfl (lenOf pd_1 rfl) rfl d5_47 (pc' := 50) rfl (by decide) (W := 0) (Nat.le_of_eq rfl) (by decide) (by decide) (by decide) (fun T8 h8 Lc8 v8r X8 eH8 hQ8 => ?_)
    obtain ⟨rfl, Nq8, Kq8, gq8_0, gq8_1⟩ := hQ8
    have N8 := Fr.app N0 Nq8
    replace E_o0 := E_o0.keep Kq8
    replace F_o0_heap := F_o0_heap.keep Kq8 (ninS ne_o0_heap_o0 (ninS ne_o0_position_o0 nin0))
    replace F_o0_position := F_o0_position.keep Kq8 (ninS ne_o0_heap_o0 (ninS ne_o0_position_o0 nin0))
    replace F_o0_key := F_o0_key.keep Kq8 (ninS ne_o0_heap_o0 (ninS ne_o0_position_o0 nin0))
    replace V_key_o0 := V_key_o0.keep Kq8 (ninS ne_key_o0_heap_o0 (ninS ne_key_o0_position_o0 nin0))
    replace K0 := K0.trans Kq8 (allS (Or.inl (by simp)) (allS (Or.inl (by simp)) all0))
    have V_heap_o0 := gq8_0
    have hl9 : (P.set y0.toNatClampNeg (2 : Int32)).length = 4 := by (repeat' split) <;> (simp only [List.length_set]; first | assumption | rfl)
    have V_position_o0 := gq8_1
    replace Z0 := Nat.le_trans Z0 Kq8.1
    refine own_iload X8 hx hby rfl d5_50 (pc' := 52) rfl ?_
    refine own_istoreN X8 hx hby (L' := #[.val (.ref o0), .val (.int (2 : Int32)), .val (.int p2), .val (.int (0 : Int32)), .val (.int (0 : Int32))]) rfl d5_52 (pc' := 53) rfl ?_
    refine own_goto X8 hx hby d5_53 (by decide) (pc' := 2) (by decide) ?_
    refine own_iloadN X8 hx hby rfl d5_2 (pc' := 3) rfl ?_
    refine own_ifT X8 hx hby d5_3 (by decide) (by decide) (pc' := 56) (by decide) ?_
    refine own_aloadN X8 hx hby rfl rfl d5_56 (pc' := 57) rfl ?_
    refine own_iloadN X8 hx hby rfl d5_57 (pc' := 58) rfl ?_
    refine own_iloadN X8 hx hby rfl d5_58 (pc' := 59) rfl ?_
    refine own_private X8 hx hby hZ (y := (⟨"com/example/cross_town/crosstown/solve/NodeHeap", "place", "(II)V"⟩ : MethodName)) (rest := []) hown (hw _ (List.mem_of_getElem? (i := 32) rfl)) (hw _ (List.mem_of_getElem? (i := 33) rfl)) (hw _ (List.mem_of_getElem? (i := 2) rfl)) (hw _ (List.mem_of_getElem? (i := 34) rfl)) (hw _ (List.mem_of_getElem? (i := 35) rfl)) (hw _ (List.mem_of_getElem? (i := 3) rfl)) (by decide) (rm60 l Z a0 hw [] o0 p2 heap_o0 position_o0 y0 y1 y0 y3 (P.set y0.toNatClampNeg (2 : Int32)) h8 n0 Z0 E_o0 F_o0_heap F_o0_position V_heap_o0 V_position_o0 (by first | assumption | rfl | (simp only [List.length_set]; first | assumption | rfl)) rg_p2 g_heap_o0 ne_o0_heap_o0 ne_position_o0_heap_o0 g_position_o0 ne_o0_position_o0) eH8 (by rw [hml]; rfl) (a := o0) E_o0 (argsL := [(.int (0 : Int32)), (.int p2)]) rfl (lenOf pd_1 rfl) rfl d5_59 (pc' := 62) rfl (by decide) (W := 0) (Nat.le_of_eq rfl) (by decide) (by decide) (by decide) (fun T10 h10 Lc10 v10r X10 eH10 hQ10 => ?_)
    obtain ⟨rfl, Nq10, Kq10, gq10_0, gq10_1⟩ := hQ10
    have N10 := Fr.app N8 Nq10
    replace E_o0 := E_o0.keep Kq10
    replace F_o0_heap := F_o0_heap.keep Kq10 (ninS ne_o0_heap_o0 (ninS ne_o0_position_o0 nin0))
    replace F_o0_position := F_o0_position.keep Kq10 (ninS ne_o0_heap_o0 (ninS ne_o0_position_o0 nin0))
    replace F_o0_key := F_o0_key.keep Kq10 (ninS ne_o0_heap_o0 (ninS ne_o0_position_o0 nin0))
    replace V_key_o0 := V_key_o0.keep Kq10 (ninS ne_key_o0_heap_o0 (ninS ne_key_o0_position_o0 nin0))
    replace K0 := K0.trans Kq10 (allS (Or.inl (by simp)) (allS (Or.inl (by simp)) all0))
    have V_heap_o0 := gq10_0
    have hl11 : ((P.set y0.toNatClampNeg (2 : Int32)).set p2.toNatClampNeg (0 : Int32)).length = 4 := by (repeat' split) <;> (simp only [List.length_set]; first | assumption | rfl)
    have V_position_o0 := gq10_1
    replace Z0 := Nat.le_trans Z0 Kq10.1
    have o0 := mt (own_kle nnk y0 p2).mpr hc4
    have HH : Hp4 p2 y1 y0 y3 ((P.set y0.toNatClampNeg (2 : Int32)).set p2.toNatClampNeg (0 : Int32)) K := ⟨rg_p2, rg_y1, rg_y0, rg_y3, (by rw [own_pvs (by simp only [List.length_set]; exact hl_P) rg_p2 rg_p2, if_pos rfl]; first | done | decide), (by rw [own_pvs (by simp only [List.length_set]; exact hl_P) rg_p2 rg_y1, if_neg d_p2_y1, own_pvs hl_P rg_y0 rg_y1, if_neg d_y0_y1]; exact pv_y1), (by rw [own_pvs (by simp only [List.length_set]; exact hl_P) rg_p2 rg_y0, if_neg d_p2_y0, own_pvs hl_P rg_y0 rg_y0, if_pos rfl]; first | done | decide), (by rw [own_pvs (by simp only [List.length_set]; exact hl_P) rg_p2 rg_y3, if_neg d_p2_y3, own_pvs hl_P rg_y0 rg_y3, if_neg d_y0_y3]; exact pv_y3), (by omega), (by omega), (by omega)⟩
    exact own_retV X10 hx hby Bd.notSynchronized Bd.returns d5_62 (by decide) (by decide) eH10 ⟨rfl, N10, K0, (by simp only [if_neg hc4]; exact V_position_o0), (by simp only [if_neg hc4]; exact V_heap_o0), (by simp only [if_neg hc4]; exact HH)⟩
theorem ef5l43 (m : MethodId) (x0 : Addr) (x2 : Int32) : entryFrame m #[(.ref x0), (.int (3 : Int32)), (.int x2)] 5 = mkF m 0 #[.val (.ref x0), .val (.int (3 : Int32)), .val (.int x2), .unset, .unset] [] := by first | (simp [entryFrame, mkF, argsToLocals, Value.category]; done) | rfl
def Q5l43 (Z : State) (o0 : Addr) (p2 : Int32) (heap_o0 : Addr) (position_o0 : Addr) (key_o0 : Addr) (y0 : Int32) (y1 : Int32) (y2 : Int32) (P : List Int32) (K : List UInt64) (h0 : Heap) (n0 : Nat) (v : Option Value) (h : Heap) (L : List Loc) : Prop := v = none ∧ Fr n0 L ∧ Keep h0 h [position_o0, heap_o0] ∧ Ary tr Z h position_o0 .int ((if dle (K.getD y1.toNatClampNeg 0) (K.getD p2.toNatClampNeg 0) then (P.set p2.toNatClampNeg (3 : Int32)) else (if dle (K.getD y0.toNatClampNeg 0) (K.getD p2.toNatClampNeg 0) then ((P.set y1.toNatClampNeg (3 : Int32)).set p2.toNatClampNeg (1 : Int32)) else (((P.set y1.toNatClampNeg (3 : Int32)).set y0.toNatClampNeg (1 : Int32)).set p2.toNatClampNeg (0 : Int32)))).map Value.int) ∧ Ary tr Z h heap_o0 .int [(.int (if dle (K.getD y1.toNatClampNeg 0) (K.getD p2.toNatClampNeg 0) then y0 else (if dle (K.getD y0.toNatClampNeg 0) (K.getD p2.toNatClampNeg 0) then y0 else p2))), (.int (if dle (K.getD y1.toNatClampNeg 0) (K.getD p2.toNatClampNeg 0) then y1 else (if dle (K.getD y0.toNatClampNeg 0) (K.getD p2.toNatClampNeg 0) then p2 else y0))), (.int y2), (.int (if dle (K.getD y1.toNatClampNeg 0) (K.getD p2.toNatClampNeg 0) then p2 else (if dle (K.getD y0.toNatClampNeg 0) (K.getD p2.toNatClampNeg 0) then y1 else y1)))] ∧ (Hp4 (if dle (K.getD y1.toNatClampNeg 0) (K.getD p2.toNatClampNeg 0) then y0 else (if dle (K.getD y0.toNatClampNeg 0) (K.getD p2.toNatClampNeg 0) then y0 else p2)) (if dle (K.getD y1.toNatClampNeg 0) (K.getD p2.toNatClampNeg 0) then y1 else (if dle (K.getD y0.toNatClampNeg 0) (K.getD p2.toNatClampNeg 0) then p2 else y0)) y2 (if dle (K.getD y1.toNatClampNeg 0) (K.getD p2.toNatClampNeg 0) then p2 else (if dle (K.getD y0.toNatClampNeg 0) (K.getD p2.toNatClampNeg 0) then y1 else y1)) (if dle (K.getD y1.toNatClampNeg 0) (K.getD p2.toNatClampNeg 0) then (P.set p2.toNatClampNeg (3 : Int32)) else (if dle (K.getD y0.toNatClampNeg 0) (K.getD p2.toNatClampNeg 0) then ((P.set y1.toNatClampNeg (3 : Int32)).set p2.toNatClampNeg (1 : Int32)) else (((P.set y1.toNatClampNeg (3 : Int32)).set y0.toNatClampNeg (1 : Int32)).set p2.toNatClampNeg (0 : Int32)))) K)
set_option maxRecDepth 65536 in
set_option maxHeartbeats 40000000 in
theorem rm5l43 (l : Launch) (Z : State) (a0 : Array Value) (hw : ∀ d ∈ tables_1, d.before a0 Z = true) (ws : List Jvm.Cond) (o0 : Addr) (p2 : Int32) (heap_o0 : Addr) (position_o0 : Addr) (key_o0 : Addr) (y0 : Int32) (y1 : Int32) (y2 : Int32) (P : List Int32) (K : List UInt64) (h0 : Heap) (n0 : Nat) (Z0 : n0 ≤ h0.size) (E_o0 : Exa Z h0 o0 "com/example/cross_town/crosstown/solve/NodeHeap") (F_o0_heap : Fld Z h0 o0 "com/example/cross_town/crosstown/solve/NodeHeap" "heap" "[I" (.ref heap_o0)) (F_o0_position : Fld Z h0 o0 "com/example/cross_town/crosstown/solve/NodeHeap" "position" "[I" (.ref position_o0)) (F_o0_key : Fld Z h0 o0 "com/example/cross_town/crosstown/solve/NodeHeap" "key" "[D" (.ref key_o0)) (V_heap_o0 : Ary tr Z h0 heap_o0 .int [(.int y0), (.int y1), (.int y2), (.int p2)]) (V_position_o0 : Ary tr Z h0 position_o0 .int (P.map Value.int)) (hl_P : (P.length = 4)) (V_key_o0 : Ary tr Z h0 key_o0 .double (K.map Value.double)) (hl_K : (K.length = 4)) (nnk : (NNk K)) (rg_y0 : (0 ≤ y0.toInt ∧ y0.toInt < 4)) (pv_y0 : (pv P y0 = 0)) (rg_y1 : (0 ≤ y1.toInt ∧ y1.toInt < 4)) (pv_y1 : (pv P y1 = 1)) (rg_y2 : (0 ≤ y2.toInt ∧ y2.toInt < 4)) (pv_y2 : (pv P y2 = 2)) (rg_p2 : (0 ≤ p2.toInt ∧ p2.toInt < 4)) (pv_p2 : (pv P p2 = 3)) (ord1 : (kv K y0 ≤ kv K y1)) (ord2 : (kv K y0 ≤ kv K y2)) (g_heap_o0 : n0 ≤ heap_o0) (ne_o0_heap_o0 : o0 ≠ heap_o0) (ne_position_o0_heap_o0 : position_o0 ≠ heap_o0) (g_position_o0 : n0 ≤ position_o0) (ne_o0_position_o0 : o0 ≠ position_o0) (ne_key_o0_position_o0 : key_o0 ≠ position_o0) (ne_key_o0_heap_o0 : key_o0 ≠ heap_o0) :
    MetFree l (⟨"com/example/cross_town/crosstown/solve/NodeHeap", "siftUp", "(II)V"⟩ : MethodName) (head1 (Jvm.Cond.code (⟨"com/example/cross_town/crosstown/solve/NodeHeap", "siftUp", "(II)V"⟩ : MethodName) prog_33_method_5_code 5 none :: ws) ({ frames := 1, cells := 0, slots := 0, locals := 14 } : Room)) (fun a U => a = #[(.ref o0), (.int (3 : Int32)), (.int p2)] ∧ Z.Warmed39 U.vm ∧ U.heap = h0) (fun _ _ _ _ _ => True) (fun _ U o U' => ∃ v L, o = .returned v ∧ Q5l43 Z o0 p2 heap_o0 position_o0 key_o0 y0 y1 y2 P K h0 n0 v U'.heap L ∧ FrameEnd U o U' L ({ frames := 1, cells := 0, slots := 0, locals := 14 } : Room).cells ({ frames := 1, cells := 0, slots := 0, locals := 14 } : Room).slots) := by
  refine MetFree.of_bodySF (plainFor_of_name pn_com_example_cross_town_crosstown_solve_NodeHeap) hisR ?_
  intro p e s m args below meth c s₁ Bd hml0 hP hK
  obtain ⟨rfl, hZ, hh⟩ := hP
  have hx := Bd.exec
  have hby := Bd.bytes
  have hml : c.maxLocals = 5 := hml0
  have hown : s.vm.findClass "com/example/cross_town/crosstown/solve/NodeHeap" = some m.cls := findClass_of_methodNamed Bd.named
  have hnm := (name_of_methodNamed Bd.named Bd.method).1
  have X0 : Stand p l e ({ frames := 1, cells := 0, slots := 0, locals := 14 } : Room) s m #[(.ref o0), (.int (3 : Int32)), (.int p2)] below meth c s₁ [] 0 0 := Stand.of_body Bd
  have eH0 : s₁.heap = h0 := by rw [← hh, Bd.state]; rfl
  have N0 := Fr.nil n0
  have K0 := Keep.refl h0 [position_o0, heap_o0]
  show Gt p.tables e below (fun o U' => ∃ v L, o = .returned v ∧ Q5l43 Z o0 p2 heap_o0 position_o0 key_o0 y0 y1 y2 P K h0 n0 v U'.heap L ∧ FrameEnd s o U' L ({ frames := 1, cells := 0, slots := 0, locals := 14 } : Room).cells ({ frames := 1, cells := 0, slots := 0, locals := 14 } : Room).slots) _
  refine own_cast (ef5l43 m o0 p2) ?_
  have d_y0_y1 : ¬ y0.toInt = y1.toInt := own_pne pv_y0 pv_y1 (by decide)
  have d_y0_y2 : ¬ y0.toInt = y2.toInt := own_pne pv_y0 pv_y2 (by decide)
  have d_y0_p2 : ¬ y0.toInt = p2.toInt := own_pne pv_y0 pv_p2 (by decide)
  have d_y1_y0 : ¬ y1.toInt = y0.toInt := own_pne pv_y1 pv_y0 (by decide)
  have d_y1_y2 : ¬ y1.toInt = y2.toInt := own_pne pv_y1 pv_y2 (by decide)
  have d_y1_p2 : ¬ y1.toInt = p2.toInt := own_pne pv_y1 pv_p2 (by decide)
  have d_y2_y0 : ¬ y2.toInt = y0.toInt := own_pne pv_y2 pv_y0 (by decide)
  have d_y2_y1 : ¬ y2.toInt = y1.toInt := own_pne pv_y2 pv_y1 (by decide)
  have d_y2_p2 : ¬ y2.toInt = p2.toInt := own_pne pv_y2 pv_p2 (by decide)
  have d_p2_y0 : ¬ p2.toInt = y0.toInt := own_pne pv_p2 pv_y0 (by decide)
  have d_p2_y1 : ¬ p2.toInt = y1.toInt := own_pne pv_p2 pv_y1 (by decide)
  have d_p2_y2 : ¬ p2.toInt = y2.toInt := own_pne pv_p2 pv_y2 (by decide)
  refine own_iloadN X0 hx hby rfl d5_0 (pc' := 1) rfl ?_
  refine own_istoreN X0 hx hby (L' := #[.val (.ref o0), .val (.int (3 : Int32)), .val (.int p2), .val (.int (3 : Int32)), .unset]) rfl d5_1 (pc' := 2) rfl ?_
  refine own_iloadN X0 hx hby rfl d5_2 (pc' := 3) rfl ?_
  refine own_ifF X0 hx hby d5_3 (by decide) (pc' := 6) rfl ?_
  refine own_iloadN X0 hx hby rfl d5_6 (pc' := 7) rfl ?_
  refine own_iconst X0 hx hby (v := (1 : Int32)) (by decide) d5_7 (pc' := 8) rfl ?_
  refine own_isub X0 hx hby (v := (2 : Int32)) (by decide) d5_8 (pc' := 9) rfl ?_
  refine own_iconst X0 hx hby (v := (2 : Int32)) (by decide) d5_9 (pc' := 10) rfl ?_
  refine own_idiv X0 hx hby (by decide) (v := (1 : Int32)) (by decide) d5_10 (pc' := 11) rfl ?_
  refine own_istore X0 hx hby (L' := #[.val (.ref o0), .val (.int (3 : Int32)), .val (.int p2), .val (.int (3 : Int32)), .val (.int (1 : Int32))]) rfl d5_11 (pc' := 13) rfl ?_
  refine own_aloadN X0 hx hby rfl rfl d5_13 (pc' := 14) rfl ?_
  refine own_getF X0 hx hby hZ hown (host := "") (Or.inl (hw _ (List.mem_of_getElem? (i := 15) rfl))) Via.refl eH0 F_o0_key d5_14 (pc' := 17) rfl (fun T1 X1 eH1 => ?_)
  refine own_aloadN X1 hx hby rfl rfl d5_17 (pc' := 18) rfl ?_
  refine own_getF X1 hx hby hZ hown (host := "") (Or.inl (hw _ (List.mem_of_getElem? (i := 11) rfl))) Via.refl eH1 F_o0_heap d5_18 (pc' := 21) rfl (fun T2 X2 eH2 => ?_)
  refine own_iload X2 hx hby rfl d5_21 (pc' := 23) rfl ?_
  refine own_iaload X2 hx hby hZ eH2 V_heap_o0 (by decide) (v := (.int y1)) rfl d5_23 (pc' := 24) rfl ?_
  refine own_daload X2 hx hby hZ eH2 V_key_o0 (own_rg0 rg_y1) (v := (.double (K.getD y1.toNatClampNeg 0))) (own_lget (own_rgl rg_y1 hl_K)) d5_24 (pc' := 25) rfl ?_
  refine own_aloadN X2 hx hby rfl rfl d5_25 (pc' := 26) rfl ?_
  refine own_getF X2 hx hby hZ hown (host := "") (Or.inl (hw _ (List.mem_of_getElem? (i := 15) rfl))) Via.refl eH2 F_o0_key d5_26 (pc' := 29) rfl (fun T3 X3 eH3 => ?_)
  refine own_iloadN X3 hx hby rfl d5_29 (pc' := 30) rfl ?_
  refine own_daload X3 hx hby hZ eH3 V_key_o0 (own_rg0 rg_p2) (v := (.double (K.getD p2.toNatClampNeg 0))) (own_lget (own_rgl rg_p2 hl_K)) d5_30 (pc' := 31) rfl ?_
  refine own_dcmp X3 hx hby rfl d5_31 (pc' := 32) rfl ?_
  by_cases hc4 : dle (K.getD y1.toNatClampNeg 0) (K.getD p2.toNatClampNeg 0)
  · refine own_ifF X3 hx hby d5_32 (own_dg_gt_p hc4) (pc' := 35) rfl ?_
    refine own_goto X3 hx hby d5_35 (by decide) (pc' := 56) (by decide) ?_
    refine own_aloadN X3 hx hby rfl rfl d5_56 (pc' := 57) rfl ?_
    refine own_iloadN X3 hx hby rfl d5_57 (pc' := 58) rfl ?_
    refine own_iloadN X3 hx hby rfl d5_58 (pc' := 59) rfl ?_
    refine own_private X3 hx hby hZ (y := (⟨"com/example/cross_town/crosstown/solve/NodeHeap", "place", "(II)V"⟩ : MethodName)) (rest := []) hown (hw _ (List.mem_of_getElem? (i := 32) rfl)) (hw _ (List.mem_of_getElem? (i := 33) rfl)) (hw _ (List.mem_of_getElem? (i := 2) rfl)) (hw _ (List.mem_of_getElem? (i := 34) rfl)) (hw _ (List.mem_of_getElem? (i := 35) rfl)) (hw _ (List.mem_of_getElem? (i := 3) rfl)) (by decide) (rm63 l Z a0 hw [] o0 p2 heap_o0 position_o0 y0 y1 y2 p2 P h0 n0 Z0 E_o0 F_o0_heap F_o0_position V_heap_o0 V_position_o0 (by first | assumption | rfl | (simp only [List.length_set]; first | assumption | rfl)) rg_p2 g_heap_o0 ne_o0_heap_o0 ne_position_o0_heap_o0 g_position_o0 ne_o0_position_o0) eH3 (by rw [hml]; rfl) (a := o0) E_o0 (argsL := [(.int (3 : Int32)), (.int p2)]) rfl (lenOf pd_1 rfl) rfl d5_59 (pc' := 62) rfl (by decide) (W := 0) (Nat.le_of_eq rfl) (by decide) (by decide) (by decide) (fun T5 h5 Lc5 v5r X5 eH5 hQ5 => ?_)
    obtain ⟨rfl, Nq5, Kq5, gq5_0, gq5_1⟩ := hQ5
    have N5 := Fr.app N0 Nq5
    replace E_o0 := E_o0.keep Kq5
    replace F_o0_heap := F_o0_heap.keep Kq5 (ninS ne_o0_heap_o0 (ninS ne_o0_position_o0 nin0))
    replace F_o0_position := F_o0_position.keep Kq5 (ninS ne_o0_heap_o0 (ninS ne_o0_position_o0 nin0))
    replace F_o0_key := F_o0_key.keep Kq5 (ninS ne_o0_heap_o0 (ninS ne_o0_position_o0 nin0))
    replace V_key_o0 := V_key_o0.keep Kq5 (ninS ne_key_o0_heap_o0 (ninS ne_key_o0_position_o0 nin0))
    replace K0 := K0.trans Kq5 (allS (Or.inl (by simp)) (allS (Or.inl (by simp)) all0))
    have V_heap_o0 := gq5_0
    have hl6 : (P.set p2.toNatClampNeg (3 : Int32)).length = 4 := by (repeat' split) <;> (simp only [List.length_set]; first | assumption | rfl)
    have V_position_o0 := gq5_1
    replace Z0 := Nat.le_trans Z0 Kq5.1
    have o0 := (own_kle nnk y1 p2).mp hc4
    have HH : Hp4 y0 y1 y2 p2 (P.set p2.toNatClampNeg (3 : Int32)) K := ⟨rg_y0, rg_y1, rg_y2, rg_p2, (by rw [own_pvs hl_P rg_p2 rg_y0, if_neg d_p2_y0]; exact pv_y0), (by rw [own_pvs hl_P rg_p2 rg_y1, if_neg d_p2_y1]; exact pv_y1), (by rw [own_pvs hl_P rg_p2 rg_y2, if_neg d_p2_y2]; exact pv_y2), (by rw [own_pvs hl_P rg_p2 rg_p2, if_pos rfl]; first | done | decide), (by omega), (by omega), (by omega)⟩
    exact own_retV X5 hx hby Bd.notSynchronized Bd.returns d5_62 (by decide) (by decide) eH5 ⟨rfl, N5, K0, (by simp only [if_pos hc4]; exact V_position_o0), (by simp only [if_pos hc4]; exact V_heap_o0), (by simp only [if_pos hc4]; exact HH)⟩
  · refine own_ifT X3 hx hby d5_32 (own_dg_gt_n hc4) (by decide) (pc' := 38) (by decide) ?_
    refine own_aloadN X3 hx hby rfl rfl d5_38 (pc' := 39) rfl ?_
    refine own_iloadN X3 hx hby rfl d5_39 (pc' := 40) rfl ?_
    refine own_aloadN X3 hx hby rfl rfl d5_40 (pc' := 41) rfl ?_
    refine own_getF X3 hx hby hZ hown (host := "") (Or.inl (hw _ (List.mem_of_getElem? (i := 11) rfl))) Via.refl eH3 F_o0_heap d5_41 (pc' := 44) rfl (fun T7 X7 eH7 => ?_)
    refine own_iload X7 hx hby rfl d5_44 (pc' := 46) rfl ?_
    refine own_iaload X7 hx hby hZ eH7 V_heap_o0 (by decide) (v := (.int y1)) rfl d5_46 (pc' := 47) rfl ?_
    refine own_private X7 hx hby hZ (y := (⟨"com/example/cross_town/crosstown/solve/NodeHeap", "place", "(II)V"⟩ : MethodName)) (rest := []) hown (hw _ (List.mem_of_getElem? (i := 32) rfl)) (hw _ (List.mem_of_getElem? (i := 33) rfl)) (hw _ (List.mem_of_getElem? (i := 2) rfl)) (hw _ (List.mem_of_getElem? (i := 34) rfl)) (hw _ (List.mem_of_getElem? (i := 35) rfl)) (hw _ (List.mem_of_getElem? (i := 3) rfl)) (by decide) (rm63 l Z a0 hw [] o0 y1 heap_o0 position_o0 y0 y1 y2 p2 P h0 n0 Z0 E_o0 F_o0_heap F_o0_position V_heap_o0 V_position_o0 (by first | assumption | rfl | (simp only [List.length_set]; first | assumption | rfl)) rg_y1 g_heap_o0 ne_o0_heap_o0 ne_position_o0_heap_o0 g_position_o0 ne_o0_position_o0) eH7 (by rw [hml]; rfl) (a := o0) E_o0 (argsL := [(.int (3 : Int32)), (.int y1)]) rfl (lenOf pd_1 rfl) rfl d5_47 (pc' := 50) rfl (by decide) (W := 0) (Nat.le_of_eq rfl) (by decide) (by decide) (by decide) (fun T8 h8 Lc8 v8r X8 eH8 hQ8 => ?_)
    obtain ⟨rfl, Nq8, Kq8, gq8_0, gq8_1⟩ := hQ8
    have N8 := Fr.app N0 Nq8
    replace E_o0 := E_o0.keep Kq8
    replace F_o0_heap := F_o0_heap.keep Kq8 (ninS ne_o0_heap_o0 (ninS ne_o0_position_o0 nin0))
    replace F_o0_position := F_o0_position.keep Kq8 (ninS ne_o0_heap_o0 (ninS ne_o0_position_o0 nin0))
    replace F_o0_key := F_o0_key.keep Kq8 (ninS ne_o0_heap_o0 (ninS ne_o0_position_o0 nin0))
    replace V_key_o0 := V_key_o0.keep Kq8 (ninS ne_key_o0_heap_o0 (ninS ne_key_o0_position_o0 nin0))
    replace K0 := K0.trans Kq8 (allS (Or.inl (by simp)) (allS (Or.inl (by simp)) all0))
    have V_heap_o0 := gq8_0
    have hl9 : (P.set y1.toNatClampNeg (3 : Int32)).length = 4 := by (repeat' split) <;> (simp only [List.length_set]; first | assumption | rfl)
    have V_position_o0 := gq8_1
    replace Z0 := Nat.le_trans Z0 Kq8.1
    refine own_iload X8 hx hby rfl d5_50 (pc' := 52) rfl ?_
    refine own_istoreN X8 hx hby (L' := #[.val (.ref o0), .val (.int (3 : Int32)), .val (.int p2), .val (.int (1 : Int32)), .val (.int (1 : Int32))]) rfl d5_52 (pc' := 53) rfl ?_
    refine own_goto X8 hx hby d5_53 (by decide) (pc' := 2) (by decide) ?_
    refine own_iloadN X8 hx hby rfl d5_2 (pc' := 3) rfl ?_
    refine own_ifF X8 hx hby d5_3 (by decide) (pc' := 6) rfl ?_
    refine own_iloadN X8 hx hby rfl d5_6 (pc' := 7) rfl ?_
    refine own_iconst X8 hx hby (v := (1 : Int32)) (by decide) d5_7 (pc' := 8) rfl ?_
    refine own_isub X8 hx hby (v := (0 : Int32)) (by decide) d5_8 (pc' := 9) rfl ?_
    refine own_iconst X8 hx hby (v := (2 : Int32)) (by decide) d5_9 (pc' := 10) rfl ?_
    refine own_idiv X8 hx hby (by decide) (v := (0 : Int32)) (by decide) d5_10 (pc' := 11) rfl ?_
    refine own_istore X8 hx hby (L' := #[.val (.ref o0), .val (.int (3 : Int32)), .val (.int p2), .val (.int (1 : Int32)), .val (.int (0 : Int32))]) rfl d5_11 (pc' := 13) rfl ?_
    refine own_aloadN X8 hx hby rfl rfl d5_13 (pc' := 14) rfl ?_
    refine own_getF X8 hx hby hZ hown (host := "") (Or.inl (hw _ (List.mem_of_getElem? (i := 15) rfl))) Via.refl eH8 F_o0_key d5_14 (pc' := 17) rfl (fun T10 X10 eH10 => ?_)
    refine own_aloadN X10 hx hby rfl rfl d5_17 (pc' := 18) rfl ?_
    refine own_getF X10 hx hby hZ hown (host := "") (Or.inl (hw _ (List.mem_of_getElem? (i := 11) rfl))) Via.refl eH10 F_o0_heap d5_18 (pc' := 21) rfl (fun T11 X11 eH11 => ?_)
    refine own_iload X11 hx hby rfl d5_21 (pc' := 23) rfl ?_
    refine own_iaload X11 hx hby hZ eH11 V_heap_o0 (by decide) (v := (.int y0)) rfl d5_23 (pc' := 24) rfl ?_
    refine own_daload X11 hx hby hZ eH11 V_key_o0 (own_rg0 rg_y0) (v := (.double (K.getD y0.toNatClampNeg 0))) (own_lget (own_rgl rg_y0 hl_K)) d5_24 (pc' := 25) rfl ?_
    refine own_aloadN X11 hx hby rfl rfl d5_25 (pc' := 26) rfl ?_
    refine own_getF X11 hx hby hZ hown (host := "") (Or.inl (hw _ (List.mem_of_getElem? (i := 15) rfl))) Via.refl eH11 F_o0_key d5_26 (pc' := 29) rfl (fun T12 X12 eH12 => ?_)
    refine own_iloadN X12 hx hby rfl d5_29 (pc' := 30) rfl ?_
    refine own_daload X12 hx hby hZ eH12 V_key_o0 (own_rg0 rg_p2) (v := (.double (K.getD p2.toNatClampNeg 0))) (own_lget (own_rgl rg_p2 hl_K)) d5_30 (pc' := 31) rfl ?_
    refine own_dcmp X12 hx hby rfl d5_31 (pc' := 32) rfl ?_
    by_cases hc13 : dle (K.getD y0.toNatClampNeg 0) (K.getD p2.toNatClampNeg 0)
    · refine own_ifF X12 hx hby d5_32 (own_dg_gt_p hc13) (pc' := 35) rfl ?_
      refine own_goto X12 hx hby d5_35 (by decide) (pc' := 56) (by decide) ?_
      refine own_aloadN X12 hx hby rfl rfl d5_56 (pc' := 57) rfl ?_
      refine own_iloadN X12 hx hby rfl d5_57 (pc' := 58) rfl ?_
      refine own_iloadN X12 hx hby rfl d5_58 (pc' := 59) rfl ?_
      refine own_private X12 hx hby hZ (y := (⟨"com/example/cross_town/crosstown/solve/NodeHeap", "place", "(II)V"⟩ : MethodName)) (rest := []) hown (hw _ (List.mem_of_getElem? (i := 32) rfl)) (hw _ (List.mem_of_getElem? (i := 33) rfl)) (hw _ (List.mem_of_getElem? (i := 2) rfl)) (hw _ (List.mem_of_getElem? (i := 34) rfl)) (hw _ (List.mem_of_getElem? (i := 35) rfl)) (hw _ (List.mem_of_getElem? (i := 3) rfl)) (by decide) (rm61 l Z a0 hw [] o0 p2 heap_o0 position_o0 y0 y1 y2 y1 (P.set y1.toNatClampNeg (3 : Int32)) h8 n0 Z0 E_o0 F_o0_heap F_o0_position V_heap_o0 V_position_o0 (by first | assumption | rfl | (simp only [List.length_set]; first | assumption | rfl)) rg_p2 g_heap_o0 ne_o0_heap_o0 ne_position_o0_heap_o0 g_position_o0 ne_o0_position_o0) eH12 (by rw [hml]; rfl) (a := o0) E_o0 (argsL := [(.int (1 : Int32)), (.int p2)]) rfl (lenOf pd_1 rfl) rfl d5_59 (pc' := 62) rfl (by decide) (W := 0) (Nat.le_of_eq rfl) (by decide) (by decide) (by decide) (fun T14 h14 Lc14 v14r X14 eH14 hQ14 => ?_)
      obtain ⟨rfl, Nq14, Kq14, gq14_0, gq14_1⟩ := hQ14
      have N14 := Fr.app N8 Nq14
      replace E_o0 := E_o0.keep Kq14
      replace F_o0_heap := F_o0_heap.keep Kq14 (ninS ne_o0_heap_o0 (ninS ne_o0_position_o0 nin0))
      replace F_o0_position := F_o0_position.keep Kq14 (ninS ne_o0_heap_o0 (ninS ne_o0_position_o0 nin0))
      replace F_o0_key := F_o0_key.keep Kq14 (ninS ne_o0_heap_o0 (ninS ne_o0_position_o0 nin0))
      replace V_key_o0 := V_key_o0.keep Kq14 (ninS ne_key_o0_heap_o0 (ninS ne_key_o0_position_o0 nin0))
      replace K0 := K0.trans Kq14 (allS (Or.inl (by simp)) (allS (Or.inl (by simp)) all0))
      have V_heap_o0 := gq14_0
      have hl15 : ((P.set y1.toNatClampNeg (3 : Int32)).set p2.toNatClampNeg (1 : Int32)).length = 4 := by (repeat' split) <;> (simp only [List.length_set]; first | assumption | rfl)
      have V_position_o0 := gq14_1
      replace Z0 := Nat.le_trans Z0 Kq14.1
      have o0 := mt (own_kle nnk y1 p2).mpr hc4
      have o1 := (own_kle nnk y0 p2).mp hc13
      have HH : Hp4 y0 p2 y2 y1 ((P.set y1.toNatClampNeg (3 : Int32)).set p2.toNatClampNeg (1 : Int32)) K := ⟨rg_y0, rg_p2, rg_y2, rg_y1, (by rw [own_pvs (by simp only [List.length_set]; exact hl_P) rg_p2 rg_y0, if_neg d_p2_y0, own_pvs hl_P rg_y1 rg_y0, if_neg d_y1_y0]; exact pv_y0), (by rw [own_pvs (by simp only [List.length_set]; exact hl_P) rg_p2 rg_p2, if_pos rfl]; first | done | decide), (by rw [own_pvs (by simp only [List.length_set]; exact hl_P) rg_p2 rg_y2, if_neg d_p2_y2, own_pvs hl_P rg_y1 rg_y2, if_neg d_y1_y2]; exact pv_y2), (by rw [own_pvs (by simp only [List.length_set]; exact hl_P) rg_p2 rg_y1, if_neg d_p2_y1, own_pvs hl_P rg_y1 rg_y1, if_pos rfl]; first | done | decide), (by omega), (by omega), (by omega)⟩
      exact own_retV X14 hx hby Bd.notSynchronized Bd.returns d5_62 (by decide) (by decide) eH14 ⟨rfl, N14, K0, (by simp only [if_neg hc4, if_pos hc13]; exact V_position_o0), (by simp only [if_neg hc4, if_pos hc13]; exact V_heap_o0), (by simp only [if_neg hc4, if_pos hc13]; exact HH)⟩
    · refine own_ifT X12 hx hby d5_32 (own_dg_gt_n hc13) (by decide) (pc' := 38) (by decide) ?_
      refine own_aloadN X12 hx hby rfl rfl d5_38 (pc' := 39) rfl ?_
      refine own_iloadN X12 hx hby rfl d5_39 (pc' := 40) rfl ?_
      refine own_aloadN X12 hx hby rfl rfl d5_40 (pc' := 41) rfl ?_
      refine own_getF X12 hx hby hZ hown (host := "") (Or.inl (hw _ (List.mem_of_getElem? (i := 11) rfl))) Via.refl eH12 F_o0_heap d5_41 (pc' := 44) rfl (fun T16 X16 eH16 => ?_)
      refine own_iload X16 hx hby rfl d5_44 (pc' := 46) rfl ?_
      refine own_iaload X16 hx hby hZ eH16 V_heap_o0 (by decide) (v := (.int y0)) rfl d5_46 (pc' := 47) rfl ?_
      refine own_private X16 hx hby hZ (y := (⟨"com/example/cross_town/crosstown/solve/NodeHeap", "place", "(II)V"⟩ : MethodName)) (rest := []) hown (hw _ (List.mem_of_getElem? (i := 32) rfl)) (hw _ (List.mem_of_getElem? (i := 33) rfl)) (hw _ (List.mem_of_getElem? (i := 2) rfl)) (hw _ (List.mem_of_getElem? (i := 34) rfl)) (hw _ (List.mem_of_getElem? (i := 35) rfl)) (hw _ (List.mem_of_getElem? (i := 3) rfl)) (by decide) (rm61 l Z a0 hw [] o0 y0 heap_o0 position_o0 y0 y1 y2 y1 (P.set y1.toNatClampNeg (3 : Int32)) h8 n0 Z0 E_o0 F_o0_heap F_o0_position V_heap_o0 V_position_o0 (by first | assumption | rfl | (simp only [List.length_set]; first | assumption | rfl)) rg_y0 g_heap_o0 ne_o0_heap_o0 ne_position_o0_heap_o0 g_position_o0 ne_o0_position_o0) eH16 (by rw [hml]; rfl) (a := o0) E_o0 (argsL := [(.int (1 : Int32)), (.int y0)]) rfl (lenOf pd_1 rfl) rfl d5_47 (pc' := 50) rfl (by decide) (W := 0) (Nat.le_of_eq rfl) (by decide) (by decide) (by decide) (fun T17 h17 Lc17 v17r X17 eH17 hQ17 => ?_)
      obtain ⟨rfl, Nq17, Kq17, gq17_0, gq17_1⟩ := hQ17
      have N17 := Fr.app N8 Nq17
      replace E_o0 := E_o0.keep Kq17
      replace F_o0_heap := F_o0_heap.keep Kq17 (ninS ne_o0_heap_o0 (ninS ne_o0_position_o0 nin0))
      replace F_o0_position := F_o0_position.keep Kq17 (ninS ne_o0_heap_o0 (ninS ne_o0_position_o0 nin0))
      replace F_o0_key := F_o0_key.keep Kq17 (ninS ne_o0_heap_o0 (ninS ne_o0_position_o0 nin0))
      replace V_key_o0 := V_key_o0.keep Kq17 (ninS ne_key_o0_heap_o0 (ninS ne_key_o0_position_o0 nin0))
      replace K0 := K0.trans Kq17 (allS (Or.inl (by simp)) (allS (Or.inl (by simp)) all0))
      have V_heap_o0 := gq17_0
      have hl18 : ((P.set y1.toNatClampNeg (3 : Int32)).set y0.toNatClampNeg (1 : Int32)).length = 4 := by (repeat' split) <;> (simp only [List.length_set]; first | assumption | rfl)
      have V_position_o0 := gq17_1
      replace Z0 := Nat.le_trans Z0 Kq17.1
      refine own_iload X17 hx hby rfl d5_50 (pc' := 52) rfl ?_
      refine own_istoreN X17 hx hby (L' := #[.val (.ref o0), .val (.int (3 : Int32)), .val (.int p2), .val (.int (0 : Int32)), .val (.int (0 : Int32))]) rfl d5_52 (pc' := 53) rfl ?_
      refine own_goto X17 hx hby d5_53 (by decide) (pc' := 2) (by decide) ?_
      refine own_iloadN X17 hx hby rfl d5_2 (pc' := 3) rfl ?_
      refine own_ifT X17 hx hby d5_3 (by decide) (by decide) (pc' := 56) (by decide) ?_
      refine own_aloadN X17 hx hby rfl rfl d5_56 (pc' := 57) rfl ?_
      refine own_iloadN X17 hx hby rfl d5_57 (pc' := 58) rfl ?_
      refine own_iloadN X17 hx hby rfl d5_58 (pc' := 59) rfl ?_
      refine own_private X17 hx hby hZ (y := (⟨"com/example/cross_town/crosstown/solve/NodeHeap", "place", "(II)V"⟩ : MethodName)) (rest := []) hown (hw _ (List.mem_of_getElem? (i := 32) rfl)) (hw _ (List.mem_of_getElem? (i := 33) rfl)) (hw _ (List.mem_of_getElem? (i := 2) rfl)) (hw _ (List.mem_of_getElem? (i := 34) rfl)) (hw _ (List.mem_of_getElem? (i := 35) rfl)) (hw _ (List.mem_of_getElem? (i := 3) rfl)) (by decide) (rm60 l Z a0 hw [] o0 p2 heap_o0 position_o0 y0 y0 y2 y1 ((P.set y1.toNatClampNeg (3 : Int32)).set y0.toNatClampNeg (1 : Int32)) h17 n0 Z0 E_o0 F_o0_heap F_o0_position V_heap_o0 V_position_o0 (by first | assumption | rfl | (simp only [List.length_set]; first | assumption | rfl)) rg_p2 g_heap_o0 ne_o0_heap_o0 ne_position_o0_heap_o0 g_position_o0 ne_o0_position_o0) eH17 (by rw [hml]; rfl) (a := o0) E_o0 (argsL := [(.int (0 : Int32)), (.int p2)]) rfl (lenOf pd_1 rfl) rfl d5_59 (pc' := 62) rfl (by decide) (W := 0) (Nat.le_of_eq rfl) (by decide) (by decide) (by decide) (fun T19 h19 Lc19 v19r X19 eH19 hQ19 => ?_)
      obtain ⟨rfl, Nq19, Kq19, gq19_0, gq19_1⟩ := hQ19
      have N19 := Fr.app N17 Nq19
      replace E_o0 := E_o0.keep Kq19
      replace F_o0_heap := F_o0_heap.keep Kq19 (ninS ne_o0_heap_o0 (ninS ne_o0_position_o0 nin0))
      replace F_o0_position := F_o0_position.keep Kq19 (ninS ne_o0_heap_o0 (ninS ne_o0_position_o0 nin0))
      replace F_o0_key := F_o0_key.keep Kq19 (ninS ne_o0_heap_o0 (ninS ne_o0_position_o0 nin0))
      replace V_key_o0 := V_key_o0.keep Kq19 (ninS ne_key_o0_heap_o0 (ninS ne_key_o0_position_o0 nin0))
      replace K0 := K0.trans Kq19 (allS (Or.inl (by simp)) (allS (Or.inl (by simp)) all0))
      have V_heap_o0 := gq19_0
      have hl20 : (((P.set y1.toNatClampNeg (3 : Int32)).set y0.toNatClampNeg (1 : Int32)).set p2.toNatClampNeg (0 : Int32)).length = 4 := by (repeat' split) <;> (simp only [List.length_set]; first | assumption | rfl)
      have V_position_o0 := gq19_1
      replace Z0 := Nat.le_trans Z0 Kq19.1
      have o0 := mt (own_kle nnk y1 p2).mpr hc4
      have o1 := mt (own_kle nnk y0 p2).mpr hc13
      have HH : Hp4 p2 y0 y2 y1 (((P.set y1.toNatClampNeg (3 : Int32)).set y0.toNatClampNeg (1 : Int32)).set p2.toNatClampNeg (0 : Int32)) K := ⟨rg_p2, rg_y0, rg_y2, rg_y1, (by rw [own_pvs (by simp only [List.length_set]; exact hl_P) rg_p2 rg_p2, if_pos rfl]; first | done | decide), (by rw [own_pvs (by simp only [List.length_set]; exact hl_P) rg_p2 rg_y0, if_neg d_p2_y0, own_pvs (by simp only [List.length_set]; exact hl_P) rg_y0 rg_y0, if_pos rfl]; first | done | decide), (by rw [own_pvs (by simp only [List.length_set]; exact hl_P) rg_p2 rg_y2, if_neg d_p2_y2, own_pvs (by simp only [List.length_set]; exact hl_P) rg_y0 rg_y2, if_neg d_y0_y2, own_pvs hl_P rg_y1 rg_y2, if_neg d_y1_y2]; exact pv_y2), (by rw [own_pvs (by simp only [List.length_set]; exact hl_P) rg_p2 rg_y1, if_neg d_p2_y1, own_pvs (by simp only [List.length_set]; exact hl_P) rg_y0 rg_y1, if_neg d_y0_y1, own_pvs hl_P rg_y1 rg_y1, if_pos rfl]; first | done | decide), (by omega), (by omega), (by omega)⟩
      exact own_retV X19 hx hby Bd.notSynchronized Bd.returns d5_62 (by decide) (by decide) eH19 ⟨rfl, N19, K0, (by simp only [if_neg hc4, if_neg hc13]; exact V_position_o0), (by simp only [if_neg hc4, if_neg hc13]; exact V_heap_o0), (by simp only [if_neg hc4, if_neg hc13]; exact HH)⟩
theorem ef81 (m : MethodId) (x0 : Addr) (x2 : Int32) : entryFrame m #[(.ref x0), (.int (0 : Int32)), (.int x2)] 5 = mkF m 0 #[.val (.ref x0), .val (.int (0 : Int32)), .val (.int x2), .unset, .unset] [] := by first | (simp [entryFrame, mkF, argsToLocals, Value.category]; done) | rfl
def Q81 (Z : State) (o0 : Addr) (p2 : Int32) (heap_o0 : Addr) (position_o0 : Addr) (key_o0 : Addr) (y0 : Int32) (y1 : Int32) (y2 : Int32) (y3 : Int32) (P : List Int32) (K : List UInt64) (h0 : Heap) (n0 : Nat) (v : Option Value) (h : Heap) (L : List Loc) : Prop := v = none ∧ Fr n0 L ∧ Keep h0 h [position_o0, heap_o0] ∧ Ary tr Z h position_o0 .int ((P.set p2.toNatClampNeg (0 : Int32)).map Value.int) ∧ Ary tr Z h heap_o0 .int [(.int p2), (.int y1), (.int y2), (.int y3)] ∧ (Hp1 p2 (P.set p2.toNatClampNeg (0 : Int32)) K) ∧ (∀ z : Int32, (0 ≤ z.toInt ∧ z.toInt < 4) → pv P z = -1 → pv (P.set p2.toNatClampNeg (0 : Int32)) z = -1) ∧ (∀ m : Int, m ≤ kv K p2 → m ≤ kv K p2)
set_option maxRecDepth 65536 in
set_option maxHeartbeats 40000000 in
theorem rm81 (l : Launch) (Z : State) (a0 : Array Value) (hw : ∀ d ∈ tables_1, d.before a0 Z = true) (ws : List Jvm.Cond) (o0 : Addr) (p2 : Int32) (heap_o0 : Addr) (position_o0 : Addr) (key_o0 : Addr) (y0 : Int32) (y1 : Int32) (y2 : Int32) (y3 : Int32) (P : List Int32) (K : List UInt64) (h0 : Heap) (n0 : Nat) (Z0 : n0 ≤ h0.size) (E_o0 : Exa Z h0 o0 "com/example/cross_town/crosstown/solve/NodeHeap") (F_o0_heap : Fld Z h0 o0 "com/example/cross_town/crosstown/solve/NodeHeap" "heap" "[I" (.ref heap_o0)) (F_o0_position : Fld Z h0 o0 "com/example/cross_town/crosstown/solve/NodeHeap" "position" "[I" (.ref position_o0)) (F_o0_key : Fld Z h0 o0 "com/example/cross_town/crosstown/solve/NodeHeap" "key" "[D" (.ref key_o0)) (V_heap_o0 : Ary tr Z h0 heap_o0 .int [(.int y0), (.int y1), (.int y2), (.int y3)]) (V_position_o0 : Ary tr Z h0 position_o0 .int (P.map Value.int)) (hl_P : (P.length = 4)) (V_key_o0 : Ary tr Z h0 key_o0 .double (K.map Value.double)) (hl_K : (K.length = 4)) (F_o0_size : Fld Z h0 o0 "com/example/cross_town/crosstown/solve/NodeHeap" "size" "I" (.int (1 : Int32))) (rg_p2 : (0 ≤ p2.toInt ∧ p2.toInt < 4)) (nnk : (NNk K)) (pv_p2 : (pv P p2 = 1)) (g_heap_o0 : n0 ≤ heap_o0) (ne_o0_heap_o0 : o0 ≠ heap_o0) (ne_position_o0_heap_o0 : position_o0 ≠ heap_o0) (g_position_o0 : n0 ≤ position_o0) (ne_o0_position_o0 : o0 ≠ position_o0) (ne_key_o0_position_o0 : key_o0 ≠ position_o0) (ne_key_o0_heap_o0 : key_o0 ≠ heap_o0) :
    MetFree l (⟨"com/example/cross_town/crosstown/solve/NodeHeap", "siftDown", "(II)V"⟩ : MethodName) (head1 (Jvm.Cond.code (⟨"com/example/cross_town/crosstown/solve/NodeHeap", "siftDown", "(II)V"⟩ : MethodName) prog_33_method_6_code 5 none :: ws) ({ frames := 1, cells := 0, slots := 0, locals := 14 } : Room)) (fun a U => a = #[(.ref o0), (.int (0 : Int32)), (.int p2)] ∧ Z.Warmed39 U.vm ∧ U.heap = h0) (fun _ _ _ _ _ => True) (fun _ U o U' => ∃ v L, o = .returned v ∧ Q81 Z o0 p2 heap_o0 position_o0 key_o0 y0 y1 y2 y3 P K h0 n0 v U'.heap L ∧ FrameEnd U o U' L ({ frames := 1, cells := 0, slots := 0, locals := 14 } : Room).cells ({ frames := 1, cells := 0, slots := 0, locals := 14 } : Room).slots) := by
  refine MetFree.of_bodySF (plainFor_of_name pn_com_example_cross_town_crosstown_solve_NodeHeap) hisR ?_
  intro p e s m args below meth c s₁ Bd hml0 hP hK
  obtain ⟨rfl, hZ, hh⟩ := hP
  have hx := Bd.exec
  have hby := Bd.bytes
  have hml : c.maxLocals = 5 := hml0
  have hown : s.vm.findClass "com/example/cross_town/crosstown/solve/NodeHeap" = some m.cls := findClass_of_methodNamed Bd.named
  have hnm := (name_of_methodNamed Bd.named Bd.method).1
  have X0 : Stand p l e ({ frames := 1, cells := 0, slots := 0, locals := 14 } : Room) s m #[(.ref o0), (.int (0 : Int32)), (.int p2)] below meth c s₁ [] 0 0 := Stand.of_body Bd
  have eH0 : s₁.heap = h0 := by rw [← hh, Bd.state]; rfl
  have N0 := Fr.nil n0
  have K0 := Keep.refl h0 [position_o0, heap_o0]
  show Gt p.tables e below (fun o U' => ∃ v L, o = .returned v ∧ Q81 Z o0 p2 heap_o0 position_o0 key_o0 y0 y1 y2 y3 P K h0 n0 v U'.heap L ∧ FrameEnd s o U' L ({ frames := 1, cells := 0, slots := 0, locals := 14 } : Room).cells ({ frames := 1, cells := 0, slots := 0, locals := 14 } : Room).slots) _
  refine own_cast (ef81 m o0 p2) ?_
  refine own_iloadN X0 hx hby rfl d8_0 (pc' := 1) rfl ?_
  refine own_istoreN X0 hx hby (L' := #[.val (.ref o0), .val (.int (0 : Int32)), .val (.int p2), .val (.int (0 : Int32)), .unset]) rfl d8_1 (pc' := 2) rfl ?_
  refine own_iconst X0 hx hby (v := (2 : Int32)) (by decide) d8_2 (pc' := 3) rfl ?_
  refine own_iloadN X0 hx hby rfl d8_3 (pc' := 4) rfl ?_
  refine own_imul X0 hx hby (v := (0 : Int32)) (by decide) d8_4 (pc' := 5) rfl ?_
  refine own_iconst X0 hx hby (v := (1 : Int32)) (by decide) d8_5 (pc' := 6) rfl ?_
  refine own_iadd X0 hx hby (v := (1 : Int32)) (by decide) d8_6 (pc' := 7) rfl ?_
  refine own_aloadN X0 hx hby rfl rfl d8_7 (pc' := 8) rfl ?_
  refine own_getF X0 hx hby hZ hown (host := "") (Or.inl (hw _ (List.mem_of_getElem? (i := 26) rfl))) Via.refl eH0 F_o0_size d8_8 (pc' := 11) rfl (fun T1 X1 eH1 => ?_)
  refine own_icT X1 hx hby d8_11 (by decide) (by decide) (pc' := 108) (by decide) ?_
  refine own_aloadN X1 hx hby rfl rfl d8_108 (pc' := 109) rfl ?_
  refine own_iloadN X1 hx hby rfl d8_109 (pc' := 110) rfl ?_
  refine own_iloadN X1 hx hby rfl d8_110 (pc' := 111) rfl ?_
  refine own_private X1 hx hby hZ (y := (⟨"com/example/cross_town/crosstown/solve/NodeHeap", "place", "(II)V"⟩ : MethodName)) (rest := []) hown (hw _ (List.mem_of_getElem? (i := 32) rfl)) (hw _ (List.mem_of_getElem? (i := 33) rfl)) (hw _ (List.mem_of_getElem? (i := 2) rfl)) (hw _ (List.mem_of_getElem? (i := 34) rfl)) (hw _ (List.mem_of_getElem? (i := 35) rfl)) (hw _ (List.mem_of_getElem? (i := 3) rfl)) (by decide) (rm60 l Z a0 hw [] o0 p2 heap_o0 position_o0 y0 y1 y2 y3 P h0 n0 Z0 E_o0 F_o0_heap F_o0_position V_heap_o0 V_position_o0 (by first | assumption | rfl | (simp only [List.length_set]; first | assumption | rfl)) rg_p2 g_heap_o0 ne_o0_heap_o0 ne_position_o0_heap_o0 g_position_o0 ne_o0_position_o0) eH1 (by rw [hml]; rfl) (a := o0) E_o0 (argsL := [(.int (0 : Int32)), (.int p2)]) rfl (lenOf pd_1 rfl) rfl d8_111 (pc' := 114) rfl (by decide) (W := 0) (Nat.le_of_eq rfl) (by decide) (by decide) (by decide) (fun T2 h2 Lc2 v2r X2 eH2 hQ2 => ?_)
  obtain ⟨rfl, Nq2, Kq2, gq2_0, gq2_1⟩ := hQ2
  have N2 := Fr.app N0 Nq2
  replace E_o0 := E_o0.keep Kq2
  replace F_o0_heap := F_o0_heap.keep Kq2 (ninS ne_o0_heap_o0 (ninS ne_o0_position_o0 nin0))
  replace F_o0_position := F_o0_position.keep Kq2 (ninS ne_o0_heap_o0 (ninS ne_o0_position_o0 nin0))
  replace F_o0_key := F_o0_key.keep Kq2 (ninS ne_o0_heap_o0 (ninS ne_o0_position_o0 nin0))
  replace F_o0_size := F_o0_size.keep Kq2 (ninS ne_o0_heap_o0 (ninS ne_o0_position_o0 nin0))
  replace V_key_o0 := V_key_o0.keep Kq2 (ninS ne_key_o0_heap_o0 (ninS ne_key_o0_position_o0 nin0))
  replace K0 := K0.trans Kq2 (allS (Or.inl (by simp)) (allS (Or.inl (by simp)) all0))
  have V_heap_o0 := gq2_0
  have hl3 : (P.set p2.toNatClampNeg (0 : Int32)).length = 4 := by (repeat' split) <;> (simp only [List.length_set]; first | assumption | rfl)
  have V_position_o0 := gq2_1
  replace Z0 := Nat.le_trans Z0 Kq2.1
  have HH : Hp1 p2 (P.set p2.toNatClampNeg (0 : Int32)) K := ⟨rg_p2, (by rw [own_pvs hl_P rg_p2 rg_p2, if_pos rfl]; first | done | decide)⟩
  have HA : ∀ z : Int32, (0 ≤ z.toInt ∧ z.toInt < 4) → pv P z = -1 → pv (P.set p2.toNatClampNeg (0 : Int32)) z = -1 := fun z rgz hz => (by rw [own_pvs hl_P rg_p2 rgz, if_neg (own_pne pv_p2 hz (by decide))]; exact hz)
  have HB : ∀ m : Int, m ≤ kv K p2 → m ≤ kv K p2 := fun m m0 => m0
  exact own_retV X2 hx hby Bd.notSynchronized Bd.returns d8_114 (by decide) (by decide) eH2 ⟨rfl, N2, K0, V_position_o0, V_heap_o0, HH, HA, HB⟩
theorem ef82 (m : MethodId) (x0 : Addr) (x2 : Int32) : entryFrame m #[(.ref x0), (.int (0 : Int32)), (.int x2)] 5 = mkF m 0 #[.val (.ref x0), .val (.int (0 : Int32)), .val (.int x2), .unset, .unset] [] := by first | (simp [entryFrame, mkF, argsToLocals, Value.category]; done) | rfl
def Q82 (Z : State) (o0 : Addr) (p2 : Int32) (heap_o0 : Addr) (position_o0 : Addr) (key_o0 : Addr) (y0 : Int32) (y1 : Int32) (y2 : Int32) (y3 : Int32) (P : List Int32) (K : List UInt64) (h0 : Heap) (n0 : Nat) (v : Option Value) (h : Heap) (L : List Loc) : Prop := v = none ∧ Fr n0 L ∧ Keep h0 h [position_o0, heap_o0] ∧ Ary tr Z h position_o0 .int ((if dle (K.getD p2.toNatClampNeg 0) (K.getD y1.toNatClampNeg 0) then (P.set p2.toNatClampNeg (0 : Int32)) else ((P.set y1.toNatClampNeg (0 : Int32)).set p2.toNatClampNeg (1 : Int32))).map Value.int) ∧ Ary tr Z h heap_o0 .int [(.int (if dle (K.getD p2.toNatClampNeg 0) (K.getD y1.toNatClampNeg 0) then p2 else y1)), (.int (if dle (K.getD p2.toNatClampNeg 0) (K.getD y1.toNatClampNeg 0) then y1 else p2)), (.int y2), (.int y3)] ∧ (Hp2 (if dle (K.getD p2.toNatClampNeg 0) (K.getD y1.toNatClampNeg 0) then p2 else y1) (if dle (K.getD p2.toNatClampNeg 0) (K.getD y1.toNatClampNeg 0) then y1 else p2) (if dle (K.getD p2.toNatClampNeg 0) (K.getD y1.toNatClampNeg 0) then (P.set p2.toNatClampNeg (0 : Int32)) else ((P.set y1.toNatClampNeg (0 : Int32)).set p2.toNatClampNeg (1 : Int32))) K) ∧ (∀ z : Int32, (0 ≤ z.toInt ∧ z.toInt < 4) → pv P z = -1 → pv (if dle (K.getD p2.toNatClampNeg 0) (K.getD y1.toNatClampNeg 0) then (P.set p2.toNatClampNeg (0 : Int32)) else ((P.set y1.toNatClampNeg (0 : Int32)).set p2.toNatClampNeg (1 : Int32))) z = -1) ∧ (∀ m : Int, m ≤ kv K p2 → m ≤ kv K y1 → m ≤ kv K (if dle (K.getD p2.toNatClampNeg 0) (K.getD y1.toNatClampNeg 0) then p2 else y1) ∧ m ≤ kv K (if dle (K.getD p2.toNatClampNeg 0) (K.getD y1.toNatClampNeg 0) then y1 else p2))
set_option maxRecDepth 65536 in
set_option maxHeartbeats 40000000 in
theorem rm82 (l : Launch) (Z : State) (a0 : Array Value) (hw : ∀ d ∈ tables_1, d.before a0 Z = true) (ws : List Jvm.Cond) (o0 : Addr) (p2 : Int32) (heap_o0 : Addr) (position_o0 : Addr) (key_o0 : Addr) (y0 : Int32) (y1 : Int32) (y2 : Int32) (y3 : Int32) (P : List Int32) (K : List UInt64) (h0 : Heap) (n0 : Nat) (Z0 : n0 ≤ h0.size) (E_o0 : Exa Z h0 o0 "com/example/cross_town/crosstown/solve/NodeHeap") (F_o0_heap : Fld Z h0 o0 "com/example/cross_town/crosstown/solve/NodeHeap" "heap" "[I" (.ref heap_o0)) (F_o0_position : Fld Z h0 o0 "com/example/cross_town/crosstown/solve/NodeHeap" "position" "[I" (.ref position_o0)) (F_o0_key : Fld Z h0 o0 "com/example/cross_town/crosstown/solve/NodeHeap" "key" "[D" (.ref key_o0)) (V_heap_o0 : Ary tr Z h0 heap_o0 .int [(.int y0), (.int y1), (.int y2), (.int y3)]) (V_position_o0 : Ary tr Z h0 position_o0 .int (P.map Value.int)) (hl_P : (P.length = 4)) (V_key_o0 : Ary tr Z h0 key_o0 .double (K.map Value.double)) (hl_K : (K.length = 4)) (F_o0_size : Fld Z h0 o0 "com/example/cross_town/crosstown/solve/NodeHeap" "size" "I" (.int (2 : Int32))) (rg_p2 : (0 ≤ p2.toInt ∧ p2.toInt < 4)) (nnk : (NNk K)) (pv_p2 : (pv P p2 = 2)) (rg_y1 : (0 ≤ y1.toInt ∧ y1.toInt < 4)) (pv_y1 : (pv P y1 = 1)) (g_heap_o0 : n0 ≤ heap_o0) (ne_o0_heap_o0 : o0 ≠ heap_o0) (ne_position_o0_heap_o0 : position_o0 ≠ heap_o0) (g_position_o0 : n0 ≤ position_o0) (ne_o0_position_o0 : o0 ≠ position_o0) (ne_key_o0_position_o0 : key_o0 ≠ position_o0) (ne_key_o0_heap_o0 : key_o0 ≠ heap_o0) :
    MetFree l (⟨"com/example/cross_town/crosstown/solve/NodeHeap", "siftDown", "(II)V"⟩ : MethodName) (head1 (Jvm.Cond.code (⟨"com/example/cross_town/crosstown/solve/NodeHeap", "siftDown", "(II)V"⟩ : MethodName) prog_33_method_6_code 5 none :: ws) ({ frames := 1, cells := 0, slots := 0, locals := 14 } : Room)) (fun a U => a = #[(.ref o0), (.int (0 : Int32)), (.int p2)] ∧ Z.Warmed39 U.vm ∧ U.heap = h0) (fun _ _ _ _ _ => True) (fun _ U o U' => ∃ v L, o = .returned v ∧ Q82 Z o0 p2 heap_o0 position_o0 key_o0 y0 y1 y2 y3 P K h0 n0 v U'.heap L ∧ FrameEnd U o U' L ({ frames := 1, cells := 0, slots := 0, locals := 14 } : Room).cells ({ frames := 1, cells := 0, slots := 0, locals := 14 } : Room).slots) := by
  refine MetFree.of_bodySF (plainFor_of_name pn_com_example_cross_town_crosstown_solve_NodeHeap) hisR ?_
  intro p e s m args below meth c s₁ Bd hml0 hP hK
  obtain ⟨rfl, hZ, hh⟩ := hP
  have hx := Bd.exec
  have hby := Bd.bytes
  have hml : c.maxLocals = 5 := hml0
  have hown : s.vm.findClass "com/example/cross_town/crosstown/solve/NodeHeap" = some m.cls := findClass_of_methodNamed Bd.named
  have hnm := (name_of_methodNamed Bd.named Bd.method).1
  have X0 : Stand p l e ({ frames := 1, cells := 0, slots := 0, locals := 14 } : Room) s m #[(.ref o0), (.int (0 : Int32)), (.int p2)] below meth c s₁ [] 0 0 := Stand.of_body Bd
  have eH0 : s₁.heap = h0 := by rw [← hh, Bd.state]; rfl
  have N0 := Fr.nil n0
  have K0 := Keep.refl h0 [position_o0, heap_o0]
  show Gt p.tables e below (fun o U' => ∃ v L, o = .returned v ∧ Q82 Z o0 p2 heap_o0 position_o0 key_o0 y0 y1 y2 y3 P K h0 n0 v U'.heap L ∧ FrameEnd s o U' L ({ frames := 1, cells := 0, slots := 0, locals := 14 } : Room).cells ({ frames := 1, cells := 0, slots := 0, locals := 14 } : Room).slots) _
  refine own_cast (ef82 m o0 p2) ?_
  have d_y1_p2 : ¬ y1.toInt = p2.toInt := own_pne pv_y1 pv_p2 (by decide)
  have d_p2_y1 : ¬ p2.toInt = y1.toInt := own_pne pv_p2 pv_y1 (by decide)
  refine own_iloadN X0 hx hby rfl d8_0 (pc' := 1) rfl ?_
  refine own_istoreN X0 hx hby (L' := #[.val (.ref o0), .val (.int (0 : Int32)), .val (.int p2), .val (.int (0 : Int32)), .unset]) rfl d8_1 (pc' := 2) rfl ?_
  refine own_iconst X0 hx hby (v := (2 : Int32)) (by decide) d8_2 (pc' := 3) rfl ?_
  refine own_iloadN X0 hx hby rfl d8_3 (pc' := 4) rfl ?_
  refine own_imul X0 hx hby (v := (0 : Int32)) (by decide) d8_4 (pc' := 5) rfl ?_
  refine own_iconst X0 hx hby (v := (1 : Int32)) (by decide) d8_5 (pc' := 6) rfl ?_
  refine own_iadd X0 hx hby (v := (1 : Int32)) (by decide) d8_6 (pc' := 7) rfl ?_
  refine own_aloadN X0 hx hby rfl rfl d8_7 (pc' := 8) rfl ?_
  refine own_getF X0 hx hby hZ hown (host := "") (Or.inl (hw _ (List.mem_of_getElem? (i := 26) rfl))) Via.refl eH0 F_o0_size d8_8 (pc' := 11) rfl (fun T1 X1 eH1 => ?_)
  refine own_icF X1 hx hby d8_11 (by decide) (pc' := 14) rfl ?_
  refine own_iconst X1 hx hby (v := (2 : Int32)) (by decide) d8_14 (pc' := 15) rfl ?_
  refine own_iloadN X1 hx hby rfl d8_15 (pc' := 16) rfl ?_
  refine own_imul X1 hx hby (v := (0 : Int32)) (by decide) d8_16 (pc' := 17) rfl ?_
  refine own_iconst X1 hx hby (v := (1 : Int32)) (by decide) d8_17 (pc' := 18) rfl ?_
  refine own_iadd X1 hx hby (v := (1 : Int32)) (by decide) d8_18 (pc' := 19) rfl ?_
  refine own_istore X1 hx hby (L' := #[.val (.ref o0), .val (.int (0 : Int32)), .val (.int p2), .val (.int (0 : Int32)), .val (.int (1 : Int32))]) rfl d8_19 (pc' := 21) rfl ?_
  refine own_iload X1 hx hby rfl d8_21 (pc' := 23) rfl ?_
  refine own_iconst X1 hx hby (v := (1 : Int32)) (by decide) d8_23 (pc' := 24) rfl ?_
  refine own_iadd X1 hx hby (v := (2 : Int32)) (by decide) d8_24 (pc' := 25) rfl ?_
  refine own_aloadN X1 hx hby rfl rfl d8_25 (pc' := 26) rfl ?_
  refine own_getF X1 hx hby hZ hown (host := "") (Or.inl (hw _ (List.mem_of_getElem? (i := 26) rfl))) Via.refl eH1 F_o0_size d8_26 (pc' := 29) rfl (fun T2 X2 eH2 => ?_)
  refine own_icT X2 hx hby d8_29 (by decide) (by decide) (pc' := 65) (by decide) ?_
  refine own_aloadN X2 hx hby rfl rfl d8_65 (pc' := 66) rfl ?_
  refine own_getF X2 hx hby hZ hown (host := "") (Or.inl (hw _ (List.mem_of_getElem? (i := 15) rfl))) Via.refl eH2 F_o0_key d8_66 (pc' := 69) rfl (fun T3 X3 eH3 => ?_)
  refine own_iloadN X3 hx hby rfl d8_69 (pc' := 70) rfl ?_
  refine own_daload X3 hx hby hZ eH3 V_key_o0 (own_rg0 rg_p2) (v := (.double (K.getD p2.toNatClampNeg 0))) (own_lget (own_rgl rg_p2 hl_K)) d8_70 (pc' := 71) rfl ?_
  refine own_aloadN X3 hx hby rfl rfl d8_71 (pc' := 72) rfl ?_
  refine own_getF X3 hx hby hZ hown (host := "") (Or.inl (hw _ (List.mem_of_getElem? (i := 15) rfl))) Via.refl eH3 F_o0_key d8_72 (pc' := 75) rfl (fun T4 X4 eH4 => ?_)
  refine own_aloadN X4 hx hby rfl rfl d8_75 (pc' := 76) rfl ?_
  refine own_getF X4 hx hby hZ hown (host := "") (Or.inl (hw _ (List.mem_of_getElem? (i := 11) rfl))) Via.refl eH4 F_o0_heap d8_76 (pc' := 79) rfl (fun T5 X5 eH5 => ?_)
  refine own_iload X5 hx hby rfl d8_79 (pc' := 81) rfl ?_
  refine own_iaload X5 hx hby hZ eH5 V_heap_o0 (by decide) (v := (.int y1)) rfl d8_81 (pc' := 82) rfl ?_
  refine own_daload X5 hx hby hZ eH5 V_key_o0 (own_rg0 rg_y1) (v := (.double (K.getD y1.toNatClampNeg 0))) (own_lget (own_rgl rg_y1 hl_K)) d8_82 (pc' := 83) rfl ?_
  refine own_dcmp X5 hx hby rfl d8_83 (pc' := 84) rfl ?_
  by_cases hc6 : dle (K.getD p2.toNatClampNeg 0) (K.getD y1.toNatClampNeg 0)
  · refine own_ifF X5 hx hby d8_84 (own_dg_gt_p hc6) (pc' := 87) rfl ?_
    refine own_goto X5 hx hby d8_87 (by decide) (pc' := 108) (by decide) ?_
    refine own_aloadN X5 hx hby rfl rfl d8_108 (pc' := 109) rfl ?_
    refine own_iloadN X5 hx hby rfl d8_109 (pc' := 110) rfl ?_
    refine own_iloadN X5 hx hby rfl d8_110 (pc' := 111) rfl ?_
    refine own_private X5 hx hby hZ (y := (⟨"com/example/cross_town/crosstown/solve/NodeHeap", "place", "(II)V"⟩ : MethodName)) (rest := []) hown (hw _ (List.mem_of_getElem? (i := 32) rfl)) (hw _ (List.mem_of_getElem? (i := 33) rfl)) (hw _ (List.mem_of_getElem? (i := 2) rfl)) (hw _ (List.mem_of_getElem? (i := 34) rfl)) (hw _ (List.mem_of_getElem? (i := 35) rfl)) (hw _ (List.mem_of_getElem? (i := 3) rfl)) (by decide) (rm60 l Z a0 hw [] o0 p2 heap_o0 position_o0 y0 y1 y2 y3 P h0 n0 Z0 E_o0 F_o0_heap F_o0_position V_heap_o0 V_position_o0 (by first | assumption | rfl | (simp only [List.length_set]; first | assumption | rfl)) rg_p2 g_heap_o0 ne_o0_heap_o0 ne_position_o0_heap_o0 g_position_o0 ne_o0_position_o0) eH5 (by rw [hml]; rfl) (a := o0) E_o0 (argsL := [(.int (0 : Int32)), (.int p2)]) rfl (lenOf pd_1 rfl) rfl d8_111 (pc' := 114) rfl (by decide) (W := 0) (Nat.le_of_eq rfl) (by decide) (by decide) (by decide) (fun T7 h7 Lc7 v7r X7 eH7 hQ7 => ?_)
    obtain ⟨rfl, Nq7, Kq7, gq7_0, gq7_1⟩ := hQ7
    have N7 := Fr.app N0 Nq7
    replace E_o0 := E_o0.keep Kq7
    replace F_o0_heap := F_o0_heap.keep Kq7 (ninS ne_o0_heap_o0 (ninS ne_o0_position_o0 nin0))
    replace F_o0_position := F_o0_position.keep Kq7 (ninS ne_o0_heap_o0 (ninS ne_o0_position_o0 nin0))
    replace F_o0_key := F_o0_key.keep Kq7 (ninS ne_o0_heap_o0 (ninS ne_o0_position_o0 nin0))
    replace F_o0_size := F_o0_size.keep Kq7 (ninS ne_o0_heap_o0 (ninS ne_o0_position_o0 nin0))
    replace V_key_o0 := V_key_o0.keep Kq7 (ninS ne_key_o0_heap_o0 (ninS ne_key_o0_position_o0 nin0))
    replace K0 := K0.trans Kq7 (allS (Or.inl (by simp)) (allS (Or.inl (by simp)) all0))
    have V_heap_o0 := gq7_0
    have hl8 : (P.set p2.toNatClampNeg (0 : Int32)).length = 4 := by (repeat' split) <;> (simp only [List.length_set]; first | assumption | rfl)
    have V_position_o0 := gq7_1
    replace Z0 := Nat.le_trans Z0 Kq7.1
    have o0 := (own_kle nnk p2 y1).mp hc6
    have HH : Hp2 p2 y1 (P.set p2.toNatClampNeg (0 : Int32)) K := ⟨rg_p2, rg_y1, (by rw [own_pvs hl_P rg_p2 rg_p2, if_pos rfl]; first | done | decide), (by rw [own_pvs hl_P rg_p2 rg_y1, if_neg d_p2_y1]; exact pv_y1), (by omega)⟩
    have HA : ∀ z : Int32, (0 ≤ z.toInt ∧ z.toInt < 4) → pv P z = -1 → pv (P.set p2.toNatClampNeg (0 : Int32)) z = -1 := fun z rgz hz => (by rw [own_pvs hl_P rg_p2 rgz, if_neg (own_pne pv_p2 hz (by decide))]; exact hz)
    have HB : ∀ m : Int, m ≤ kv K p2 → m ≤ kv K y1 → m ≤ kv K p2 ∧ m ≤ kv K y1 := fun m m0 m1 => ⟨(by omega), (by omega)⟩
    exact own_retV X7 hx hby Bd.notSynchronized Bd.returns d8_114 (by decide) (by decide) eH7 ⟨rfl, N7, K0, (by simp only [if_pos hc6]; exact V_position_o0), (by simp only [if_pos hc6]; exact V_heap_o0), (by simp only [if_pos hc6]; exact HH), (by simp only [if_pos hc6]; exact HA), (by simp only [if_pos hc6]; exact HB)⟩
  · refine own_ifT X5 hx hby d8_84 (own_dg_gt_n hc6) (by decide) (pc' := 90) (by decide) ?_
    refine own_aloadN X5 hx hby rfl rfl d8_90 (pc' := 91) rfl ?_
    refine own_iloadN X5 hx hby rfl d8_91 (pc' := 92) rfl ?_
    refine own_aloadN X5 hx hby rfl rfl d8_92 (pc' := 93) rfl ?_
    refine own_getF X5 hx hby hZ hown (host := "") (Or.inl (hw _ (List.mem_of_getElem? (i := 11) rfl))) Via.refl eH5 F_o0_heap d8_93 (pc' := 96) rfl (fun T9 X9 eH9 => ?_)
    refine own_iload X9 hx hby rfl d8_96 (pc' := 98) rfl ?_
    refine own_iaload X9 hx hby hZ eH9 V_heap_o0 (by decide) (v := (.int y1)) rfl d8_98 (pc' := 99) rfl ?_
    refine own_private X9 hx hby hZ (y := (⟨"com/example/cross_town/crosstown/solve/NodeHeap", "place", "(II)V"⟩ : MethodName)) (rest := []) hown (hw _ (List.mem_of_getElem? (i := 32) rfl)) (hw _ (List.mem_of_getElem? (i := 33) rfl)) (hw _ (List.mem_of_getElem? (i := 2) rfl)) (hw _ (List.mem_of_getElem? (i := 34) rfl)) (hw _ (List.mem_of_getElem? (i := 35) rfl)) (hw _ (List.mem_of_getElem? (i := 3) rfl)) (by decide) (rm60 l Z a0 hw [] o0 y1 heap_o0 position_o0 y0 y1 y2 y3 P h0 n0 Z0 E_o0 F_o0_heap F_o0_position V_heap_o0 V_position_o0 (by first | assumption | rfl | (simp only [List.length_set]; first | assumption | rfl)) rg_y1 g_heap_o0 ne_o0_heap_o0 ne_position_o0_heap_o0 g_position_o0 ne_o0_position_o0) eH9 (by rw [hml]; rfl) (a := o0) E_o0 (argsL := [(.int (0 : Int32)), (.int y1)]) rfl (lenOf pd_1 rfl) rfl d8_99 (pc' := 102) rfl (by decide) (W := 0) (Nat.le_of_eq rfl) (by decide) (by decide) (by decide) (fun T10 h10 Lc10 v10r X10 eH10 hQ10 => ?_)
    obtain ⟨rfl, Nq10, Kq10, gq10_0, gq10_1⟩ := hQ10
    have N10 := Fr.app N0 Nq10
    replace E_o0 := E_o0.keep Kq10
    replace F_o0_heap := F_o0_heap.keep Kq10 (ninS ne_o0_heap_o0 (ninS ne_o0_position_o0 nin0))
    replace F_o0_position := F_o0_position.keep Kq10 (ninS ne_o0_heap_o0 (ninS ne_o0_position_o0 nin0))
    replace F_o0_key := F_o0_key.keep Kq10 (ninS ne_o0_heap_o0 (ninS ne_o0_position_o0 nin0))
    replace F_o0_size := F_o0_size.keep Kq10 (ninS ne_o0_heap_o0 (ninS ne_o0_position_o0 nin0))
    replace V_key_o0 := V_key_o0.keep Kq10 (ninS ne_key_o0_heap_o0 (ninS ne_key_o0_position_o0 nin0))
    replace K0 := K0.trans Kq10 (allS (Or.inl (by simp)) (allS (Or.inl (by simp)) all0))
    have V_heap_o0 := gq10_0
    have hl11 : (P.set y1.toNatClampNeg (0 : Int32)).length = 4 := by (repeat' split) <;> (simp only [List.length_set]; first | assumption | rfl)
    have V_position_o0 := gq10_1
    replace Z0 := Nat.le_trans Z0 Kq10.1
    refine own_iload X10 hx hby rfl d8_102 (pc' := 104) rfl ?_
    refine own_istoreN X10 hx hby (L' := #[.val (.ref o0), .val (.int (0 : Int32)), .val (.int p2), .val (.int (1 : Int32)), .val (.int (1 : Int32))]) rfl d8_104 (pc' := 105) rfl ?_
    refine own_goto X10 hx hby d8_105 (by decide) (pc' := 2) (by decide) ?_
    refine own_iconst X10 hx hby (v := (2 : Int32)) (by decide) d8_2 (pc' := 3) rfl ?_
    refine own_iloadN X10 hx hby rfl d8_3 (pc' := 4) rfl ?_
    refine own_imul X10 hx hby (v := (2 : Int32)) (by decide) d8_4 (pc' := 5) rfl ?_
    refine own_iconst X10 hx hby (v := (1 : Int32)) (by decide) d8_5 (pc' := 6) rfl ?_
    refine own_iadd X10 hx hby (v := (3 : Int32)) (by decide) d8_6 (pc' := 7) rfl ?_
    refine own_aloadN X10 hx hby rfl rfl d8_7 (pc' := 8) rfl ?_
    refine own_getF X10 hx hby hZ hown (host := "") (Or.inl (hw _ (List.mem_of_getElem? (i := 26) rfl))) Via.refl eH10 F_o0_size d8_8 (pc' := 11) rfl (fun T12 X12 eH12 => ?_)
    refine own_icT X12 hx hby d8_11 (by decide) (by decide) (pc' := 108) (by decide) ?_
    refine own_aloadN X12 hx hby rfl rfl d8_108 (pc' := 109) rfl ?_
    refine own_iloadN X12 hx hby rfl d8_109 (pc' := 110) rfl ?_
    refine own_iloadN X12 hx hby rfl d8_110 (pc' := 111) rfl ?_
    refine own_private X12 hx hby hZ (y := (⟨"com/example/cross_town/crosstown/solve/NodeHeap", "place", "(II)V"⟩ : MethodName)) (rest := []) hown (hw _ (List.mem_of_getElem? (i := 32) rfl)) (hw _ (List.mem_of_getElem? (i := 33) rfl)) (hw _ (List.mem_of_getElem? (i := 2) rfl)) (hw _ (List.mem_of_getElem? (i := 34) rfl)) (hw _ (List.mem_of_getElem? (i := 35) rfl)) (hw _ (List.mem_of_getElem? (i := 3) rfl)) (by decide) (rm61 l Z a0 hw [] o0 p2 heap_o0 position_o0 y1 y1 y2 y3 (P.set y1.toNatClampNeg (0 : Int32)) h10 n0 Z0 E_o0 F_o0_heap F_o0_position V_heap_o0 V_position_o0 (by first | assumption | rfl | (simp only [List.length_set]; first | assumption | rfl)) rg_p2 g_heap_o0 ne_o0_heap_o0 ne_position_o0_heap_o0 g_position_o0 ne_o0_position_o0) eH12 (by rw [hml]; rfl) (a := o0) E_o0 (argsL := [(.int (1 : Int32)), (.int p2)]) rfl (lenOf pd_1 rfl) rfl d8_111 (pc' := 114) rfl (by decide) (W := 0) (Nat.le_of_eq rfl) (by decide) (by decide) (by decide) (fun T13 h13 Lc13 v13r X13 eH13 hQ13 => ?_)
    obtain ⟨rfl, Nq13, Kq13, gq13_0, gq13_1⟩ := hQ13
    have N13 := Fr.app N10 Nq13
    replace E_o0 := E_o0.keep Kq13
    replace F_o0_heap := F_o0_heap.keep Kq13 (ninS ne_o0_heap_o0 (ninS ne_o0_position_o0 nin0))
    replace F_o0_position := F_o0_position.keep Kq13 (ninS ne_o0_heap_o0 (ninS ne_o0_position_o0 nin0))
    replace F_o0_key := F_o0_key.keep Kq13 (ninS ne_o0_heap_o0 (ninS ne_o0_position_o0 nin0))
    replace F_o0_size := F_o0_size.keep Kq13 (ninS ne_o0_heap_o0 (ninS ne_o0_position_o0 nin0))
    replace V_key_o0 := V_key_o0.keep Kq13 (ninS ne_key_o0_heap_o0 (ninS ne_key_o0_position_o0 nin0))
    replace K0 := K0.trans Kq13 (allS (Or.inl (by simp)) (allS (Or.inl (by simp)) all0))
    have V_heap_o0 := gq13_0
    have hl14 : ((P.set y1.toNatClampNeg (0 : Int32)).set p2.toNatClampNeg (1 : Int32)).length = 4 := by (repeat' split) <;> (simp only [List.length_set]; first | assumption | rfl)
    have V_position_o0 := gq13_1
    replace Z0 := Nat.le_trans Z0 Kq13.1
    have o0 := mt (own_kle nnk p2 y1).mpr hc6
    have HH : Hp2 y1 p2 ((P.set y1.toNatClampNeg (0 : Int32)).set p2.toNatClampNeg (1 : Int32)) K := ⟨rg_y1, rg_p2, (by rw [own_pvs (by simp only [List.length_set]; exact hl_P) rg_p2 rg_y1, if_neg d_p2_y1, own_pvs hl_P rg_y1 rg_y1, if_pos rfl]; first | done | decide), (by rw [own_pvs (by simp only [List.length_set]; exact hl_P) rg_p2 rg_p2, if_pos rfl]; first | done | decide), (by omega)⟩
    have HA : ∀ z : Int32, (0 ≤ z.toInt ∧ z.toInt < 4) → pv P z = -1 → pv ((P.set y1.toNatClampNeg (0 : Int32)).set p2.toNatClampNeg (1 : Int32)) z = -1 := fun z rgz hz => (by rw [own_pvs (by simp only [List.length_set]; exact hl_P) rg_p2 rgz, if_neg (own_pne pv_p2 hz (by decide)), own_pvs hl_P rg_y1 rgz, if_neg (own_pne pv_y1 hz (by decide))]; exact hz)
    have HB : ∀ m : Int, m ≤ kv K p2 → m ≤ kv K y1 → m ≤ kv K y1 ∧ m ≤ kv K p2 := fun m m0 m1 => ⟨(by omega), (by omega)⟩
    exact own_retV X13 hx hby Bd.notSynchronized Bd.returns d8_114 (by decide) (by decide) eH13 ⟨rfl, N13, K0, (by simp only [if_neg hc6]; exact V_position_o0), (by simp only [if_neg hc6]; exact V_heap_o0), (by simp only [if_neg hc6]; exact HH), (by simp only [if_neg hc6]; exact HA), (by simp only [if_neg hc6]; exact HB)⟩
theorem ef83 (m : MethodId) (x0 : Addr) (x2 : Int32) : entryFrame m #[(.ref x0), (.int (0 : Int32)), (.int x2)] 5 = mkF m 0 #[.val (.ref x0), .val (.int (0 : Int32)), .val (.int x2), .unset, .unset] [] := by first | (simp [entryFrame, mkF, argsToLocals, Value.category]; done) | rfl
def Q83 (Z : State) (o0 : Addr) (p2 : Int32) (heap_o0 : Addr) (position_o0 : Addr) (key_o0 : Addr) (y0 : Int32) (y1 : Int32) (y2 : Int32) (y3 : Int32) (P : List Int32) (K : List UInt64) (h0 : Heap) (n0 : Nat) (v : Option Value) (h : Heap) (L : List Loc) : Prop := v = none ∧ Fr n0 L ∧ Keep h0 h [position_o0, heap_o0] ∧ Ary tr Z h position_o0 .int ((if dlt (K.getD y2.toNatClampNeg 0) (K.getD y1.toNatClampNeg 0) then (if dle (K.getD p2.toNatClampNeg 0) (K.getD y2.toNatClampNeg 0) then (P.set p2.toNatClampNeg (0 : Int32)) else ((P.set y2.toNatClampNeg (0 : Int32)).set p2.toNatClampNeg (2 : Int32))) else (if dle (K.getD p2.toNatClampNeg 0) (K.getD y1.toNatClampNeg 0) then (P.set p2.toNatClampNeg (0 : Int32)) else ((P.set y1.toNatClampNeg (0 : Int32)).set p2.toNatClampNeg (1 : Int32)))).map Value.int) ∧ Ary tr Z h heap_o0 .int [(.int (if dlt (K.getD y2.toNatClampNeg 0) (K.getD y1.toNatClampNeg 0) then (if dle (K.getD p2.toNatClampNeg 0) (K.getD y2.toNatClampNeg 0) then p2 else y2) else (if dle (K.getD p2.toNatClampNeg 0) (K.getD y1.toNatClampNeg 0) then p2 else y1))), (.int (if dlt (K.getD y2.toNatClampNeg 0) (K.getD y1.toNatClampNeg 0) then (if dle (K.getD p2.toNatClampNeg 0) (K.getD y2.toNatClampNeg 0) then y1 else y1) else (if dle (K.getD p2.toNatClampNeg 0) (K.getD y1.toNatClampNeg 0) then y1 else p2))), (.int (if dlt (K.getD y2.toNatClampNeg 0) (K.getD y1.toNatClampNeg 0) then (if dle (K.getD p2.toNatClampNeg 0) (K.getD y2.toNatClampNeg 0) then y2 else p2) else (if dle (K.getD p2.toNatClampNeg 0) (K.getD y1.toNatClampNeg 0) then y2 else y2))), (.int y3)] ∧ (Hp3 (if dlt (K.getD y2.toNatClampNeg 0) (K.getD y1.toNatClampNeg 0) then (if dle (K.getD p2.toNatClampNeg 0) (K.getD y2.toNatClampNeg 0) then p2 else y2) else (if dle (K.getD p2.toNatClampNeg 0) (K.getD y1.toNatClampNeg 0) then p2 else y1)) (if dlt (K.getD y2.toNatClampNeg 0) (K.getD y1.toNatClampNeg 0) then (if dle (K.getD p2.toNatClampNeg 0) (K.getD y2.toNatClampNeg 0) then y1 else y1) else (if dle (K.getD p2.toNatClampNeg 0) (K.getD y1.toNatClampNeg 0) then y1 else p2)) (if dlt (K.getD y2.toNatClampNeg 0) (K.getD y1.toNatClampNeg 0) then (if dle (K.getD p2.toNatClampNeg 0) (K.getD y2.toNatClampNeg 0) then y2 else p2) else (if dle (K.getD p2.toNatClampNeg 0) (K.getD y1.toNatClampNeg 0) then y2 else y2)) (if dlt (K.getD y2.toNatClampNeg 0) (K.getD y1.toNatClampNeg 0) then (if dle (K.getD p2.toNatClampNeg 0) (K.getD y2.toNatClampNeg 0) then (P.set p2.toNatClampNeg (0 : Int32)) else ((P.set y2.toNatClampNeg (0 : Int32)).set p2.toNatClampNeg (2 : Int32))) else (if dle (K.getD p2.toNatClampNeg 0) (K.getD y1.toNatClampNeg 0) then (P.set p2.toNatClampNeg (0 : Int32)) else ((P.set y1.toNatClampNeg (0 : Int32)).set p2.toNatClampNeg (1 : Int32)))) K) ∧ (∀ z : Int32, (0 ≤ z.toInt ∧ z.toInt < 4) → pv P z = -1 → pv (if dlt (K.getD y2.toNatClampNeg 0) (K.getD y1.toNatClampNeg 0) then (if dle (K.getD p2.toNatClampNeg 0) (K.getD y2.toNatClampNeg 0) then (P.set p2.toNatClampNeg (0 : Int32)) else ((P.set y2.toNatClampNeg (0 : Int32)).set p2.toNatClampNeg (2 : Int32))) else (if dle (K.getD p2.toNatClampNeg 0) (K.getD y1.toNatClampNeg 0) then (P.set p2.toNatClampNeg (0 : Int32)) else ((P.set y1.toNatClampNeg (0 : Int32)).set p2.toNatClampNeg (1 : Int32)))) z = -1) ∧ (∀ m : Int, m ≤ kv K p2 → m ≤ kv K y1 → m ≤ kv K y2 → m ≤ kv K (if dlt (K.getD y2.toNatClampNeg 0) (K.getD y1.toNatClampNeg 0) then (if dle (K.getD p2.toNatClampNeg 0) (K.getD y2.toNatClampNeg 0) then p2 else y2) else (if dle (K.getD p2.toNatClampNeg 0) (K.getD y1.toNatClampNeg 0) then p2 else y1)) ∧ m ≤ kv K (if dlt (K.getD y2.toNatClampNeg 0) (K.getD y1.toNatClampNeg 0) then (if dle (K.getD p2.toNatClampNeg 0) (K.getD y2.toNatClampNeg 0) then y1 else y1) else (if dle (K.getD p2.toNatClampNeg 0) (K.getD y1.toNatClampNeg 0) then y1 else p2)) ∧ m ≤ kv K (if dlt (K.getD y2.toNatClampNeg 0) (K.getD y1.toNatClampNeg 0) then (if dle (K.getD p2.toNatClampNeg 0) (K.getD y2.toNatClampNeg 0) then y2 else p2) else (if dle (K.getD p2.toNatClampNeg 0) (K.getD y1.toNatClampNeg 0) then y2 else y2)))
set_option maxRecDepth 65536 in
set_option maxHeartbeats 40000000 in
theorem rm83 (l : Launch) (Z : State) (a0 : Array Value) (hw : ∀ d ∈ tables_1, d.before a0 Z = true) (ws : List Jvm.Cond) (o0 : Addr) (p2 : Int32) (heap_o0 : Addr) (position_o0 : Addr) (key_o0 : Addr) (y0 : Int32) (y1 : Int32) (y2 : Int32) (y3 : Int32) (P : List Int32) (K : List UInt64) (h0 : Heap) (n0 : Nat) (Z0 : n0 ≤ h0.size) (E_o0 : Exa Z h0 o0 "com/example/cross_town/crosstown/solve/NodeHeap") (F_o0_heap : Fld Z h0 o0 "com/example/cross_town/crosstown/solve/NodeHeap" "heap" "[I" (.ref heap_o0)) (F_o0_position : Fld Z h0 o0 "com/example/cross_town/crosstown/solve/NodeHeap" "position" "[I" (.ref position_o0)) (F_o0_key : Fld Z h0 o0 "com/example/cross_town/crosstown/solve/NodeHeap" "key" "[D" (.ref key_o0)) (V_heap_o0 : Ary tr Z h0 heap_o0 .int [(.int y0), (.int y1), (.int y2), (.int y3)]) (V_position_o0 : Ary tr Z h0 position_o0 .int (P.map Value.int)) (hl_P : (P.length = 4)) (V_key_o0 : Ary tr Z h0 key_o0 .double (K.map Value.double)) (hl_K : (K.length = 4)) (F_o0_size : Fld Z h0 o0 "com/example/cross_town/crosstown/solve/NodeHeap" "size" "I" (.int (3 : Int32))) (rg_p2 : (0 ≤ p2.toInt ∧ p2.toInt < 4)) (nnk : (NNk K)) (pv_p2 : (pv P p2 = 3)) (rg_y1 : (0 ≤ y1.toInt ∧ y1.toInt < 4)) (pv_y1 : (pv P y1 = 1)) (rg_y2 : (0 ≤ y2.toInt ∧ y2.toInt < 4)) (pv_y2 : (pv P y2 = 2)) (g_heap_o0 : n0 ≤ heap_o0) (ne_o0_heap_o0 : o0 ≠ heap_o0) (ne_position_o0_heap_o0 : position_o0 ≠ heap_o0) (g_position_o0 : n0 ≤ position_o0) (ne_o0_position_o0 : o0 ≠ position_o0) (ne_key_o0_position_o0 : key_o0 ≠ position_o0) (ne_key_o0_heap_o0 : key_o0 ≠ heap_o0) :
    MetFree l (⟨"com/example/cross_town/crosstown/solve/NodeHeap", "siftDown", "(II)V"⟩ : MethodName) (head1 (Jvm.Cond.code (⟨"com/example/cross_town/crosstown/solve/NodeHeap", "siftDown", "(II)V"⟩ : MethodName) prog_33_method_6_code 5 none :: ws) ({ frames := 1, cells := 0, slots := 0, locals := 14 } : Room)) (fun a U => a = #[(.ref o0), (.int (0 : Int32)), (.int p2)] ∧ Z.Warmed39 U.vm ∧ U.heap = h0) (fun _ _ _ _ _ => True) (fun _ U o U' => ∃ v L, o = .returned v ∧ Q83 Z o0 p2 heap_o0 position_o0 key_o0 y0 y1 y2 y3 P K h0 n0 v U'.heap L ∧ FrameEnd U o U' L ({ frames := 1, cells := 0, slots := 0, locals := 14 } : Room).cells ({ frames := 1, cells := 0, slots := 0, locals := 14 } : Room).slots) := by
  refine MetFree.of_bodySF (plainFor_of_name pn_com_example_cross_town_crosstown_solve_NodeHeap) hisR ?_
  intro p e s m args below meth c s₁ Bd hml0 hP hK
  obtain ⟨rfl, hZ, hh⟩ := hP
  have hx := Bd.exec
  have hby := Bd.bytes
  have hml : c.maxLocals = 5 := hml0
  have hown : s.vm.findClass "com/example/cross_town/crosstown/solve/NodeHeap" = some m.cls := findClass_of_methodNamed Bd.named
  have hnm := (name_of_methodNamed Bd.named Bd.method).1
  have X0 : Stand p l e ({ frames := 1, cells := 0, slots := 0, locals := 14 } : Room) s m #[(.ref o0), (.int (0 : Int32)), (.int p2)] below meth c s₁ [] 0 0 := Stand.of_body Bd
  have eH0 : s₁.heap = h0 := by rw [← hh, Bd.state]; rfl
  have N0 := Fr.nil n0
  have K0 := Keep.refl h0 [position_o0, heap_o0]
  show Gt p.tables e below (fun o U' => ∃ v L, o = .returned v ∧ Q83 Z o0 p2 heap_o0 position_o0 key_o0 y0 y1 y2 y3 P K h0 n0 v U'.heap L ∧ FrameEnd s o U' L ({ frames := 1, cells := 0, slots := 0, locals := 14 } : Room).cells ({ frames := 1, cells := 0, slots := 0, locals := 14 } : Room).slots) _
  refine own_cast (ef83 m o0 p2) ?_
  have d_y1_y2 : ¬ y1.toInt = y2.toInt := own_pne pv_y1 pv_y2 (by decide)
  have d_y1_p2 : ¬ y1.toInt = p2.toInt := own_pne pv_y1 pv_p2 (by decide)
  have d_y2_y1 : ¬ y2.toInt = y1.toInt := own_pne pv_y2 pv_y1 (by decide)
  have d_y2_p2 : ¬ y2.toInt = p2.toInt := own_pne pv_y2 pv_p2 (by decide)
  have d_p2_y1 : ¬ p2.toInt = y1.toInt := own_pne pv_p2 pv_y1 (by decide)
  have d_p2_y2 : ¬ p2.toInt = y2.toInt := own_pne pv_p2 pv_y2 (by decide)
  refine own_iloadN X0 hx hby rfl d8_0 (pc' := 1) rfl ?_
  refine own_istoreN X0 hx hby (L' := #[.val (.ref o0), .val (.int (0 : Int32)), .val (.int p2), .val (.int (0 : Int32)), .unset]) rfl d8_1 (pc' := 2) rfl ?_
  refine own_iconst X0 hx hby (v := (2 : Int32)) (by decide) d8_2 (pc' := 3) rfl ?_
  refine own_iloadN X0 hx hby rfl d8_3 (pc' := 4) rfl ?_
  refine own_imul X0 hx hby (v := (0 : Int32)) (by decide) d8_4 (pc' := 5) rfl ?_
  refine own_iconst X0 hx hby (v := (1 : Int32)) (by decide) d8_5 (pc' := 6) rfl ?_
  refine own_iadd X0 hx hby (v := (1 : Int32)) (by decide) d8_6 (pc' := 7) rfl ?_
  refine own_aloadN X0 hx hby rfl rfl d8_7 (pc' := 8) rfl ?_
  refine own_getF X0 hx hby hZ hown (host := "") (Or.inl (hw _ (List.mem_of_getElem? (i := 26) rfl))) Via.refl eH0 F_o0_size d8_8 (pc' := 11) rfl (fun T1 X1 eH1 => ?_)
  refine own_icF X1 hx hby d8_11 (by decide) (pc' := 14) rfl ?_
  refine own_iconst X1 hx hby (v := (2 : Int32)) (by decide) d8_14 (pc' := 15) rfl ?_
  refine own_iloadN X1 hx hby rfl d8_15 (pc' := 16) rfl ?_
  refine own_imul X1 hx hby (v := (0 : Int32)) (by decide) d8_16 (pc' := 17) rfl ?_
  refine own_iconst X1 hx hby (v := (1 : Int32)) (by decide) d8_17 (pc' := 18) rfl ?_
  refine own_iadd X1 hx hby (v := (1 : Int32)) (by decide) d8_18 (pc' := 19) rfl ?_
  refine own_istore X1 hx hby (L' := #[.val (.ref o0), .val (.int (0 : Int32)), .val (.int p2), .val (.int (0 : Int32)), .val (.int (1 : Int32))]) rfl d8_19 (pc' := 21) rfl ?_
  refine own_iload X1 hx hby rfl d8_21 (pc' := 23) rfl ?_
  refine own_iconst X1 hx hby (v := (1 : Int32)) (by decide) d8_23 (pc' := 24) rfl ?_
  refine own_iadd X1 hx hby (v := (2 : Int32)) (by decide) d8_24 (pc' := 25) rfl ?_
  refine own_aloadN X1 hx hby rfl rfl d8_25 (pc' := 26) rfl ?_
  refine own_getF X1 hx hby hZ hown (host := "") (Or.inl (hw _ (List.mem_of_getElem? (i := 26) rfl))) Via.refl eH1 F_o0_size d8_26 (pc' := 29) rfl (fun T2 X2 eH2 => ?_)
  refine own_icF X2 hx hby d8_29 (by decide) (pc' := 32) rfl ?_
  refine own_aloadN X2 hx hby rfl rfl d8_32 (pc' := 33) rfl ?_
  refine own_getF X2 hx hby hZ hown (host := "") (Or.inl (hw _ (List.mem_of_getElem? (i := 15) rfl))) Via.refl eH2 F_o0_key d8_33 (pc' := 36) rfl (fun T3 X3 eH3 => ?_)
  refine own_aloadN X3 hx hby rfl rfl d8_36 (pc' := 37) rfl ?_
  refine own_getF X3 hx hby hZ hown (host := "") (Or.inl (hw _ (List.mem_of_getElem? (i := 11) rfl))) Via.refl eH3 F_o0_heap d8_37 (pc' := 40) rfl (fun T4 X4 eH4 => ?_)
  refine own_iload X4 hx hby rfl d8_40 (pc' := 42) rfl ?_
  refine own_iconst X4 hx hby (v := (1 : Int32)) (by decide) d8_42 (pc' := 43) rfl ?_
  refine own_iadd X4 hx hby (v := (2 : Int32)) (by decide) d8_43 (pc' := 44) rfl ?_
  refine own_iaload X4 hx hby hZ eH4 V_heap_o0 (by decide) (v := (.int y2)) rfl d8_44 (pc' := 45) rfl ?_
  refine own_daload X4 hx hby hZ eH4 V_key_o0 (own_rg0 rg_y2) (v := (.double (K.getD y2.toNatClampNeg 0))) (own_lget (own_rgl rg_y2 hl_K)) d8_45 (pc' := 46) rfl ?_
  refine own_aloadN X4 hx hby rfl rfl d8_46 (pc' := 47) rfl ?_
  refine own_getF X4 hx hby hZ hown (host := "") (Or.inl (hw _ (List.mem_of_getElem? (i := 15) rfl))) Via.refl eH4 F_o0_key d8_47 (pc' := 50) rfl (fun T5 X5 eH5 => ?_)
  refine own_aloadN X5 hx hby rfl rfl d8_50 (pc' := 51) rfl ?_
  refine own_getF X5 hx hby hZ hown (host := "") (Or.inl (hw _ (List.mem_of_getElem? (i := 11) rfl))) Via.refl eH5 F_o0_heap d8_51 (pc' := 54) rfl (fun T6 X6 eH6 => ?_)
  refine own_iload X6 hx hby rfl d8_54 (pc' := 56) rfl ?_
  refine own_iaload X6 hx hby hZ eH6 V_heap_o0 (by decide) (v := (.int y1)) rfl d8_56 (pc' := 57) rfl ?_
  refine own_daload X6 hx hby hZ eH6 V_key_o0 (own_rg0 rg_y1) (v := (.double (K.getD y1.toNatClampNeg 0))) (own_lget (own_rgl rg_y1 hl_K)) d8_57 (pc' := 58) rfl ?_
  refine own_dcmp X6 hx hby rfl d8_58 (pc' := 59) rfl ?_
  by_cases hc7 : dlt (K.getD y2.toNatClampNeg 0) (K.getD y1.toNatClampNeg 0)
  · refine own_ifF X6 hx hby d8_59 (own_dg_ge_p hc7) (pc' := 62) rfl ?_
    refine own_iinc X6 hx hby rfl (L' := #[.val (.ref o0), .val (.int (0 : Int32)), .val (.int p2), .val (.int (0 : Int32)), .val (.int (2 : Int32))]) rfl d8_62 (pc' := 65) rfl ?_
    refine own_aloadN X6 hx hby rfl rfl d8_65 (pc' := 66) rfl ?_
    refine own_getF X6 hx hby hZ hown (host := "") (Or.inl (hw _ (List.mem_of_getElem? (i := 15) rfl))) Via.refl eH6 F_o0_key d8_66 (pc' := 69) rfl (fun T8 X8 eH8 => ?_)
    refine own_iloadN X8 hx hby rfl d8_69 (pc' := 70) rfl ?_
    refine own_daload X8 hx hby hZ eH8 V_key_o0 (own_rg0 rg_p2) (v := (.double (K.getD p2.toNatClampNeg 0))) (own_lget (own_rgl rg_p2 hl_K)) d8_70 (pc' := 71) rfl ?_
    refine own_aloadN X8 hx hby rfl rfl d8_71 (pc' := 72) rfl ?_
    refine own_getF X8 hx hby hZ hown (host := "") (Or.inl (hw _ (List.mem_of_getElem? (i := 15) rfl))) Via.refl eH8 F_o0_key d8_72 (pc' := 75) rfl (fun T9 X9 eH9 => ?_)
    refine own_aloadN X9 hx hby rfl rfl d8_75 (pc' := 76) rfl ?_
    refine own_getF X9 hx hby hZ hown (host := "") (Or.inl (hw _ (List.mem_of_getElem? (i := 11) rfl))) Via.refl eH9 F_o0_heap d8_76 (pc' := 79) rfl (fun T10 X10 eH10 => ?_)
    refine own_iload X10 hx hby rfl d8_79 (pc' := 81) rfl ?_
    refine own_iaload X10 hx hby hZ eH10 V_heap_o0 (by decide) (v := (.int y2)) rfl d8_81 (pc' := 82) rfl ?_
    refine own_daload X10 hx hby hZ eH10 V_key_o0 (own_rg0 rg_y2) (v := (.double (K.getD y2.toNatClampNeg 0))) (own_lget (own_rgl rg_y2 hl_K)) d8_82 (pc' := 83) rfl ?_
    refine own_dcmp X10 hx hby rfl d8_83 (pc' := 84) rfl ?_
    by_cases hc11 : dle (K.getD p2.toNatClampNeg 0) (K.getD y2.toNatClampNeg 0)
    · refine own_ifF X10 hx hby d8_84 (own_dg_gt_p hc11) (pc' := 87) rfl ?_
      refine own_goto X10 hx hby d8_87 (by decide) (pc' := 108) (by decide) ?_
      refine own_aloadN X10 hx hby rfl rfl d8_108 (pc' := 109) rfl ?_
      refine own_iloadN X10 hx hby rfl d8_109 (pc' := 110) rfl ?_
      refine own_iloadN X10 hx hby rfl d8_110 (pc' := 111) rfl ?_
      refine own_private X10 hx hby hZ (y := (⟨"com/example/cross_town/crosstown/solve/NodeHeap", "place", "(II)V"⟩ : MethodName)) (rest := []) hown (hw _ (List.mem_of_getElem? (i := 32) rfl)) (hw _ (List.mem_of_getElem? (i := 33) rfl)) (hw _ (List.mem_of_getElem? (i := 2) rfl)) (hw _ (List.mem_of_getElem? (i := 34) rfl)) (hw _ (List.mem_of_getElem? (i := 35) rfl)) (hw _ (List.mem_of_getElem? (i := 3) rfl)) (by decide) (rm60 l Z a0 hw [] o0 p2 heap_o0 position_o0 y0 y1 y2 y3 P h0 n0 Z0 E_o0 F_o0_heap F_o0_position V_heap_o0 V_position_o0 (by first | assumption | rfl | (simp only [List.length_set]; first | assumption | rfl)) rg_p2 g_heap_o0 ne_o0_heap_o0 ne_position_o0_heap_o0 g_position_o0 ne_o0_position_o0) eH10 (by rw [hml]; rfl) (a := o0) E_o0 (argsL := [(.int (0 : Int32)), (.int p2)]) rfl (lenOf pd_1 rfl) rfl d8_111 (pc' := 114) rfl (by decide) (W := 0) (Nat.le_of_eq rfl) (by decide) (by decide) (by decide) (fun T12 h12 Lc12 v12r X12 eH12 hQ12 => ?_)
      obtain ⟨rfl, Nq12, Kq12, gq12_0, gq12_1⟩ := hQ12
      have N12 := Fr.app N0 Nq12
      replace E_o0 := E_o0.keep Kq12
      replace F_o0_heap := F_o0_heap.keep Kq12 (ninS ne_o0_heap_o0 (ninS ne_o0_position_o0 nin0))
      replace F_o0_position := F_o0_position.keep Kq12 (ninS ne_o0_heap_o0 (ninS ne_o0_position_o0 nin0))
      replace F_o0_key := F_o0_key.keep Kq12 (ninS ne_o0_heap_o0 (ninS ne_o0_position_o0 nin0))
      replace F_o0_size := F_o0_size.keep Kq12 (ninS ne_o0_heap_o0 (ninS ne_o0_position_o0 nin0))
      replace V_key_o0 := V_key_o0.keep Kq12 (ninS ne_key_o0_heap_o0 (ninS ne_key_o0_position_o0 nin0))
      replace K0 := K0.trans Kq12 (allS (Or.inl (by simp)) (allS (Or.inl (by simp)) all0))
      have V_heap_o0 := gq12_0
      have hl13 : (P.set p2.toNatClampNeg (0 : Int32)).length = 4 := by (repeat' split) <;> (simp only [List.length_set]; first | assumption | rfl)
      have V_position_o0 := gq12_1
      replace Z0 := Nat.le_trans Z0 Kq12.1
      have o0 := (own_klt nnk y2 y1).mp hc7
      have o1 := (own_kle nnk p2 y2).mp hc11
      have HH : Hp3 p2 y1 y2 (P.set p2.toNatClampNeg (0 : Int32)) K := ⟨rg_p2, rg_y1, rg_y2, (by rw [own_pvs hl_P rg_p2 rg_p2, if_pos rfl]; first | done | decide), (by rw [own_pvs hl_P rg_p2 rg_y1, if_neg d_p2_y1]; exact pv_y1), (by rw [own_pvs hl_P rg_p2 rg_y2, if_neg d_p2_y2]; exact pv_y2), (by omega), (by omega)⟩
      have HA : ∀ z : Int32, (0 ≤ z.toInt ∧ z.toInt < 4) → pv P z = -1 → pv (P.set p2.toNatClampNeg (0 : Int32)) z = -1 := fun z rgz hz => (by rw [own_pvs hl_P rg_p2 rgz, if_neg (own_pne pv_p2 hz (by decide))]; exact hz)
      have HB : ∀ m : Int, m ≤ kv K p2 → m ≤ kv K y1 → m ≤ kv K y2 → m ≤ kv K p2 ∧ m ≤ kv K y1 ∧ m ≤ kv K y2 := fun m m0 m1 m2 => ⟨(by omega), (by omega), (by omega)⟩
      exact own_retV X12 hx hby Bd.notSynchronized Bd.returns d8_114 (by decide) (by decide) eH12 ⟨rfl, N12, K0, (by simp only [if_pos hc7, if_pos hc11]; exact V_position_o0), (by simp only [if_pos hc7, if_pos hc11]; exact V_heap_o0), (by simp only [if_pos hc7, if_pos hc11]; exact HH), (by simp only [if_pos hc7, if_pos hc11]; exact HA), (by simp only [if_pos hc7, if_pos hc11]; exact HB)⟩
    · refine own_ifT X10 hx hby d8_84 (own_dg_gt_n hc11) (by decide) (pc' := 90) (by decide) ?_
      refine own_aloadN X10 hx hby rfl rfl d8_90 (pc' := 91) rfl ?_
      refine own_iloadN X10 hx hby rfl d8_91 (pc' := 92) rfl ?_
      refine own_aloadN X10 hx hby rfl rfl d8_92 (pc' := 93) rfl ?_
      refine own_getF X10 hx hby hZ hown (host := "") (Or.inl (hw _ (List.mem_of_getElem? (i := 11) rfl))) Via.refl eH10 F_o0_heap d8_93 (pc' := 96) rfl (fun T14 X14 eH14 => ?_)
      refine own_iload X14 hx hby rfl d8_96 (pc' := 98) rfl ?_
      refine own_iaload X14 hx hby hZ eH14 V_heap_o0 (by decide) (v := (.int y2)) rfl d8_98 (pc' := 99) rfl ?_
      refine own_private X14 hx hby hZ (y := (⟨"com/example/cross_town/crosstown/solve/NodeHeap", "place", "(II)V"⟩ : MethodName)) (rest := []) hown (hw _ (List.mem_of_getElem? (i := 32) rfl)) (hw _ (List.mem_of_getElem? (i := 33) rfl)) (hw _ (List.mem_of_getElem? (i := 2) rfl)) (hw _ (List.mem_of_getElem? (i := 34) rfl)) (hw _ (List.mem_of_getElem? (i := 35) rfl)) (hw _ (List.mem_of_getElem? (i := 3) rfl)) (by decide) (rm60 l Z a0 hw [] o0 y2 heap_o0 position_o0 y0 y1 y2 y3 P h0 n0 Z0 E_o0 F_o0_heap F_o0_position V_heap_o0 V_position_o0 (by first | assumption | rfl | (simp only [List.length_set]; first | assumption | rfl)) rg_y2 g_heap_o0 ne_o0_heap_o0 ne_position_o0_heap_o0 g_position_o0 ne_o0_position_o0) eH14 (by rw [hml]; rfl) (a := o0) E_o0 (argsL := [(.int (0 : Int32)), (.int y2)]) rfl (lenOf pd_1 rfl) rfl d8_99 (pc' := 102) rfl (by decide) (W := 0) (Nat.le_of_eq rfl) (by decide) (by decide) (by decide) (fun T15 h15 Lc15 v15r X15 eH15 hQ15 => ?_)
      obtain ⟨rfl, Nq15, Kq15, gq15_0, gq15_1⟩ := hQ15
      have N15 := Fr.app N0 Nq15
      replace E_o0 := E_o0.keep Kq15
      replace F_o0_heap := F_o0_heap.keep Kq15 (ninS ne_o0_heap_o0 (ninS ne_o0_position_o0 nin0))
      replace F_o0_position := F_o0_position.keep Kq15 (ninS ne_o0_heap_o0 (ninS ne_o0_position_o0 nin0))
      replace F_o0_key := F_o0_key.keep Kq15 (ninS ne_o0_heap_o0 (ninS ne_o0_position_o0 nin0))
      replace F_o0_size := F_o0_size.keep Kq15 (ninS ne_o0_heap_o0 (ninS ne_o0_position_o0 nin0))
      replace V_key_o0 := V_key_o0.keep Kq15 (ninS ne_key_o0_heap_o0 (ninS ne_key_o0_position_o0 nin0))
      replace K0 := K0.trans Kq15 (allS (Or.inl (by simp)) (allS (Or.inl (by simp)) all0))
      have V_heap_o0 := gq15_0
      have hl16 : (P.set y2.toNatClampNeg (0 : Int32)).length = 4 := by (repeat' split) <;> (simp only [List.length_set]; first | assumption | rfl)
      have V_position_o0 := gq15_1
      replace Z0 := Nat.le_trans Z0 Kq15.1
      refine own_iload X15 hx hby rfl d8_102 (pc' := 104) rfl ?_
      refine own_istoreN X15 hx hby (L' := #[.val (.ref o0), .val (.int (0 : Int32)), .val (.int p2), .val (.int (2 : Int32)), .val (.int (2 : Int32))]) rfl d8_104 (pc' := 105) rfl ?_
      refine own_goto X15 hx hby d8_105 (by decide) (pc' := 2) (by decide) ?_
      refine own_iconst X15 hx hby (v := (2 : Int32)) (by decide) d8_2 (pc' := 3) rfl ?_
      refine own_iloadN X15 hx hby rfl d8_3 (pc' := 4) rfl ?_
      refine own_imul X15 hx hby (v := (4 : Int32)) (by decide) d8_4 (pc' := 5) rfl ?_
      refine own_iconst X15 hx hby (v := (1 : Int32)) (by decide) d8_5 (pc' := 6) rfl ?_
      refine own_iadd X15 hx hby (v := (5 : Int32)) (by decide) d8_6 (pc' := 7) rfl ?_
      refine own_aloadN X15 hx hby rfl rfl d8_7 (pc' := 8) rfl ?_
      refine own_getF X15 hx hby hZ hown (host := "") (Or.inl (hw _ (List.mem_of_getElem? (i := 26) rfl))) Via.refl eH15 F_o0_size d8_8 (pc' := 11) rfl (fun T17 X17 eH17 => ?_)
      refine own_icT X17 hx hby d8_11 (by decide) (by decide) (pc' := 108) (by decide) ?_
      refine own_aloadN X17 hx hby rfl rfl d8_108 (pc' := 109) rfl ?_
      refine own_iloadN X17 hx hby rfl d8_109 (pc' := 110) rfl ?_
      refine own_iloadN X17 hx hby rfl d8_110 (pc' := 111) rfl ?_
      refine own_private X17 hx hby hZ (y := (⟨"com/example/cross_town/crosstown/solve/NodeHeap", "place", "(II)V"⟩ : MethodName)) (rest := []) hown (hw _ (List.mem_of_getElem? (i := 32) rfl)) (hw _ (List.mem_of_getElem? (i := 33) rfl)) (hw _ (List.mem_of_getElem? (i := 2) rfl)) (hw _ (List.mem_of_getElem? (i := 34) rfl)) (hw _ (List.mem_of_getElem? (i := 35) rfl)) (hw _ (List.mem_of_getElem? (i := 3) rfl)) (by decide) (rm62 l Z a0 hw [] o0 p2 heap_o0 position_o0 y2 y1 y2 y3 (P.set y2.toNatClampNeg (0 : Int32)) h15 n0 Z0 E_o0 F_o0_heap F_o0_position V_heap_o0 V_position_o0 (by first | assumption | rfl | (simp only [List.length_set]; first | assumption | rfl)) rg_p2 g_heap_o0 ne_o0_heap_o0 ne_position_o0_heap_o0 g_position_o0 ne_o0_position_o0) eH17 (by rw [hml]; rfl) (a := o0) E_o0 (argsL := [(.int (2 : Int32)), (.int p2)]) rfl (lenOf pd_1 rfl) rfl d8_111 (pc' := 114) rfl (by decide) (W := 0) (Nat.le_of_eq rfl) (by decide) (by decide) (by decide) (fun T18 h18 Lc18 v18r X18 eH18 hQ18 => ?_)
      obtain ⟨rfl, Nq18, Kq18, gq18_0, gq18_1⟩ := hQ18
      have N18 := Fr.app N15 Nq18
      replace E_o0 := E_o0.keep Kq18
      replace F_o0_heap := F_o0_heap.keep Kq18 (ninS ne_o0_heap_o0 (ninS ne_o0_position_o0 nin0))
      replace F_o0_position := F_o0_position.keep Kq18 (ninS ne_o0_heap_o0 (ninS ne_o0_position_o0 nin0))
      replace F_o0_key := F_o0_key.keep Kq18 (ninS ne_o0_heap_o0 (ninS ne_o0_position_o0 nin0))
      replace F_o0_size := F_o0_size.keep Kq18 (ninS ne_o0_heap_o0 (ninS ne_o0_position_o0 nin0))
      replace V_key_o0 := V_key_o0.keep Kq18 (ninS ne_key_o0_heap_o0 (ninS ne_key_o0_position_o0 nin0))
      replace K0 := K0.trans Kq18 (allS (Or.inl (by simp)) (allS (Or.inl (by simp)) all0))
      have V_heap_o0 := gq18_0
      have hl19 : ((P.set y2.toNatClampNeg (0 : Int32)).set p2.toNatClampNeg (2 : Int32)).length = 4 := by (repeat' split) <;> (simp only [List.length_set]; first | assumption | rfl)
      have V_position_o0 := gq18_1
      replace Z0 := Nat.le_trans Z0 Kq18.1
      have o0 := (own_klt nnk y2 y1).mp hc7
      have o1 := mt (own_kle nnk p2 y2).mpr hc11
      have HH : Hp3 y2 y1 p2 ((P.set y2.toNatClampNeg (0 : Int32)).set p2.toNatClampNeg (2 : Int32)) K := ⟨rg_y2, rg_y1, rg_p2, (by rw [own_pvs (by simp only [List.length_set]; exact hl_P) rg_p2 rg_y2, if_neg d_p2_y2, own_pvs hl_P rg_y2 rg_y2, if_pos rfl]; first | done | decide), (by rw [own_pvs (by simp only [List.length_set]; exact hl_P) rg_p2 rg_y1, if_neg d_p2_y1, own_pvs hl_P rg_y2 rg_y1, if_neg d_y2_y1]; exact pv_y1), (by rw [own_pvs (by simp only [List.length_set]; exact hl_P) rg_p2 rg_p2, if_pos rfl]; first | done | decide), (by omega), (by omega)⟩
      have HA : ∀ z : Int32, (0 ≤ z.toInt ∧ z.toInt < 4) → pv P z = -1 → pv ((P.set y2.toNatClampNeg (0 : Int32)).set p2.toNatClampNeg (2 : Int32)) z = -1 := fun z rgz hz => (by rw [own_pvs (by simp only [List.length_set]; exact hl_P) rg_p2 rgz, if_neg (own_pne pv_p2 hz (by decide)), own_pvs hl_P rg_y2 rgz, if_neg (own_pne pv_y2 hz (by decide))]; exact hz)
      have HB : ∀ m : Int, m ≤ kv K p2 → m ≤ kv K y1 → m ≤ kv K y2 → m ≤ kv K y2 ∧ m ≤ kv K y1 ∧ m ≤ kv K p2 := fun m m0 m1 m2 => ⟨(by omega), (by omega), (by omega)⟩
      exact own_retV X18 hx hby Bd.notSynchronized Bd.returns d8_114 (by decide) (by decide) eH18 ⟨rfl, N18, K0, (by simp only [if_pos hc7, if_neg hc11]; exact V_position_o0), (by simp only [if_pos hc7, if_neg hc11]; exact V_heap_o0), (by simp only [if_pos hc7, if_neg hc11]; exact HH), (by simp only [if_pos hc7, if_neg hc11]; exact HA), (by simp only [if_pos hc7, if_neg hc11]; exact HB)⟩
  · refine own_ifT X6 hx hby d8_59 (own_dg_ge_n hc7) (by decide) (pc' := 65) (by decide) ?_
    refine own_aloadN X6 hx hby rfl rfl d8_65 (pc' := 66) rfl ?_
    refine own_getF X6 hx hby hZ hown (host := "") (Or.inl (hw _ (List.mem_of_getElem? (i := 15) rfl))) Via.refl eH6 F_o0_key d8_66 (pc' := 69) rfl (fun T20 X20 eH20 => ?_)
    refine own_iloadN X20 hx hby rfl d8_69 (pc' := 70) rfl ?_
    refine own_daload X20 hx hby hZ eH20 V_key_o0 (own_rg0 rg_p2) (v := (.double (K.getD p2.toNatClampNeg 0))) (own_lget (own_rgl rg_p2 hl_K)) d8_70 (pc' := 71) rfl ?_
    refine own_aloadN X20 hx hby rfl rfl d8_71 (pc' := 72) rfl ?_
    refine own_getF X20 hx hby hZ hown (host := "") (Or.inl (hw _ (List.mem_of_getElem? (i := 15) rfl))) Via.refl eH20 F_o0_key d8_72 (pc' := 75) rfl (fun T21 X21 eH21 => ?_)
    refine own_aloadN X21 hx hby rfl rfl d8_75 (pc' := 76) rfl ?_
    refine own_getF X21 hx hby hZ hown (host := "") (Or.inl (hw _ (List.mem_of_getElem? (i := 11) rfl))) Via.refl eH21 F_o0_heap d8_76 (pc' := 79) rfl (fun T22 X22 eH22 => ?_)
    refine own_iload X22 hx hby rfl d8_79 (pc' := 81) rfl ?_
    refine own_iaload X22 hx hby hZ eH22 V_heap_o0 (by decide) (v := (.int y1)) rfl d8_81 (pc' := 82) rfl ?_
    refine own_daload X22 hx hby hZ eH22 V_key_o0 (own_rg0 rg_y1) (v := (.double (K.getD y1.toNatClampNeg 0))) (own_lget (own_rgl rg_y1 hl_K)) d8_82 (pc' := 83) rfl ?_
    refine own_dcmp X22 hx hby rfl d8_83 (pc' := 84) rfl ?_
    by_cases hc23 : dle (K.getD p2.toNatClampNeg 0) (K.getD y1.toNatClampNeg 0)
    · refine own_ifF X22 hx hby d8_84 (own_dg_gt_p hc23) (pc' := 87) rfl ?_
      refine own_goto X22 hx hby d8_87 (by decide) (pc' := 108) (by decide) ?_
      refine own_aloadN X22 hx hby rfl rfl d8_108 (pc' := 109) rfl ?_
      refine own_iloadN X22 hx hby rfl d8_109 (pc' := 110) rfl ?_
      refine own_iloadN X22 hx hby rfl d8_110 (pc' := 111) rfl ?_
      refine own_private X22 hx hby hZ (y := (⟨"com/example/cross_town/crosstown/solve/NodeHeap", "place", "(II)V"⟩ : MethodName)) (rest := []) hown (hw _ (List.mem_of_getElem? (i := 32) rfl)) (hw _ (List.mem_of_getElem? (i := 33) rfl)) (hw _ (List.mem_of_getElem? (i := 2) rfl)) (hw _ (List.mem_of_getElem? (i := 34) rfl)) (hw _ (List.mem_of_getElem? (i := 35) rfl)) (hw _ (List.mem_of_getElem? (i := 3) rfl)) (by decide) (rm60 l Z a0 hw [] o0 p2 heap_o0 position_o0 y0 y1 y2 y3 P h0 n0 Z0 E_o0 F_o0_heap F_o0_position V_heap_o0 V_position_o0 (by first | assumption | rfl | (simp only [List.length_set]; first | assumption | rfl)) rg_p2 g_heap_o0 ne_o0_heap_o0 ne_position_o0_heap_o0 g_position_o0 ne_o0_position_o0) eH22 (by rw [hml]; rfl) (a := o0) E_o0 (argsL := [(.int (0 : Int32)), (.int p2)]) rfl (lenOf pd_1 rfl) rfl d8_111 (pc' := 114) rfl (by decide) (W := 0) (Nat.le_of_eq rfl) (by decide) (by decide) (by decide) (fun T24 h24 Lc24 v24r X24 eH24 hQ24 => ?_)
      obtain ⟨rfl, Nq24, Kq24, gq24_0, gq24_1⟩ := hQ24
      have N24 := Fr.app N0 Nq24
      replace E_o0 := E_o0.keep Kq24
      replace F_o0_heap := F_o0_heap.keep Kq24 (ninS ne_o0_heap_o0 (ninS ne_o0_position_o0 nin0))
      replace F_o0_position := F_o0_position.keep Kq24 (ninS ne_o0_heap_o0 (ninS ne_o0_position_o0 nin0))
      replace F_o0_key := F_o0_key.keep Kq24 (ninS ne_o0_heap_o0 (ninS ne_o0_position_o0 nin0))
      replace F_o0_size := F_o0_size.keep Kq24 (ninS ne_o0_heap_o0 (ninS ne_o0_position_o0 nin0))
      replace V_key_o0 := V_key_o0.keep Kq24 (ninS ne_key_o0_heap_o0 (ninS ne_key_o0_position_o0 nin0))
      replace K0 := K0.trans Kq24 (allS (Or.inl (by simp)) (allS (Or.inl (by simp)) all0))
      have V_heap_o0 := gq24_0
      have hl25 : (P.set p2.toNatClampNeg (0 : Int32)).length = 4 := by (repeat' split) <;> (simp only [List.length_set]; first | assumption | rfl)
      have V_position_o0 := gq24_1
      replace Z0 := Nat.le_trans Z0 Kq24.1
      have o0 := mt (own_klt nnk y2 y1).mpr hc7
      have o1 := (own_kle nnk p2 y1).mp hc23
      have HH : Hp3 p2 y1 y2 (P.set p2.toNatClampNeg (0 : Int32)) K := ⟨rg_p2, rg_y1, rg_y2, (by rw [own_pvs hl_P rg_p2 rg_p2, if_pos rfl]; first | done | decide), (by rw [own_pvs hl_P rg_p2 rg_y1, if_neg d_p2_y1]; exact pv_y1), (by rw [own_pvs hl_P rg_p2 rg_y2, if_neg d_p2_y2]; exact pv_y2), (by omega), (by omega)⟩
      have HA : ∀ z : Int32, (0 ≤ z.toInt ∧ z.toInt < 4) → pv P z = -1 → pv (P.set p2.toNatClampNeg (0 : Int32)) z = -1 := fun z rgz hz => (by rw [own_pvs hl_P rg_p2 rgz, if_neg (own_pne pv_p2 hz (by decide))]; exact hz)
      have HB : ∀ m : Int, m ≤ kv K p2 → m ≤ kv K y1 → m ≤ kv K y2 → m ≤ kv K p2 ∧ m ≤ kv K y1 ∧ m ≤ kv K y2 := fun m m0 m1 m2 => ⟨(by omega), (by omega), (by omega)⟩
      exact own_retV X24 hx hby Bd.notSynchronized Bd.returns d8_114 (by decide) (by decide) eH24 ⟨rfl, N24, K0, (by simp only [if_neg hc7, if_pos hc23]; exact V_position_o0), (by simp only [if_neg hc7, if_pos hc23]; exact V_heap_o0), (by simp only [if_neg hc7, if_pos hc23]; exact HH), (by simp only [if_neg hc7, if_pos hc23]; exact HA), (by simp only [if_neg hc7, if_pos hc23]; exact HB)⟩
    · refine own_ifT X22 hx hby d8_84 (own_dg_gt_n hc23) (by decide) (pc' := 90) (by decide) ?_
      refine own_aloadN X22 hx hby rfl rfl d8_90 (pc' := 91) rfl ?_
      refine own_iloadN X22 hx hby rfl d8_91 (pc' := 92) rfl ?_
      refine own_aloadN X22 hx hby rfl rfl d8_92 (pc' := 93) rfl ?_
      refine own_getF X22 hx hby hZ hown (host := "") (Or.inl (hw _ (List.mem_of_getElem? (i := 11) rfl))) Via.refl eH22 F_o0_heap d8_93 (pc' := 96) rfl (fun T26 X26 eH26 => ?_)
      refine own_iload X26 hx hby rfl d8_96 (pc' := 98) rfl ?_
      refine own_iaload X26 hx hby hZ eH26 V_heap_o0 (by decide) (v := (.int y1)) rfl d8_98 (pc' := 99) rfl ?_
      refine own_private X26 hx hby hZ (y := (⟨"com/example/cross_town/crosstown/solve/NodeHeap", "place", "(II)V"⟩ : MethodName)) (rest := []) hown (hw _ (List.mem_of_getElem? (i := 32) rfl)) (hw _ (List.mem_of_getElem? (i := 33) rfl)) (hw _ (List.mem_of_getElem? (i := 2) rfl)) (hw _ (List.mem_of_getElem? (i := 34) rfl)) (hw _ (List.mem_of_getElem? (i := 35) rfl)) (hw _ (List.mem_of_getElem? (i := 3) rfl)) (by decide) (rm60 l Z a0 hw [] o0 y1 heap_o0 position_o0 y0 y1 y2 y3 P h0 n0 Z0 E_o0 F_o0_heap F_o0_position V_heap_o0 V_position_o0 (by first | assumption | rfl | (simp only [List.length_set]; first | assumption | rfl)) rg_y1 g_heap_o0 ne_o0_heap_o0 ne_position_o0_heap_o0 g_position_o0 ne_o0_position_o0) eH26 (by rw [hml]; rfl) (a := o0) E_o0 (argsL := [(.int (0 : Int32)), (.int y1)]) rfl (lenOf pd_1 rfl) rfl d8_99 (pc' := 102) rfl (by decide) (W := 0) (Nat.le_of_eq rfl) (by decide) (by decide) (by decide) (fun T27 h27 Lc27 v27r X27 eH27 hQ27 => ?_)
      obtain ⟨rfl, Nq27, Kq27, gq27_0, gq27_1⟩ := hQ27
      have N27 := Fr.app N0 Nq27
      replace E_o0 := E_o0.keep Kq27
      replace F_o0_heap := F_o0_heap.keep Kq27 (ninS ne_o0_heap_o0 (ninS ne_o0_position_o0 nin0))
      replace F_o0_position := F_o0_position.keep Kq27 (ninS ne_o0_heap_o0 (ninS ne_o0_position_o0 nin0))
      replace F_o0_key := F_o0_key.keep Kq27 (ninS ne_o0_heap_o0 (ninS ne_o0_position_o0 nin0))
      replace F_o0_size := F_o0_size.keep Kq27 (ninS ne_o0_heap_o0 (ninS ne_o0_position_o0 nin0))
      replace V_key_o0 := V_key_o0.keep Kq27 (ninS ne_key_o0_heap_o0 (ninS ne_key_o0_position_o0 nin0))
      replace K0 := K0.trans Kq27 (allS (Or.inl (by simp)) (allS (Or.inl (by simp)) all0))
      have V_heap_o0 := gq27_0
      have hl28 : (P.set y1.toNatClampNeg (0 : Int32)).length = 4 := by (repeat' split) <;> (simp only [List.length_set]; first | assumption | rfl)
      have V_position_o0 := gq27_1
      replace Z0 := Nat.le_trans Z0 Kq27.1
      refine own_iload X27 hx hby rfl d8_102 (pc' := 104) rfl ?_
      refine own_istoreN X27 hx hby (L' := #[.val (.ref o0), .val (.int (0 : Int32)), .val (.int p2), .val (.int (1 : Int32)), .val (.int (1 : Int32))]) rfl d8_104 (pc' := 105) rfl ?_
      refine own_goto X27 hx hby d8_105 (by decide) (pc' := 2) (by decide) ?_
      refine own_iconst X27 hx hby (v := (2 : Int32)) (by decide) d8_2 (pc' := 3) rfl ?_
      refine own_iloadN X27 hx hby rfl d8_3 (pc' := 4) rfl ?_
      refine own_imul X27 hx hby (v := (2 : Int32)) (by decide) d8_4 (pc' := 5) rfl ?_
      refine own_iconst X27 hx hby (v := (1 : Int32)) (by decide) d8_5 (pc' := 6) rfl ?_
      refine own_iadd X27 hx hby (v := (3 : Int32)) (by decide) d8_6 (pc' := 7) rfl ?_
      refine own_aloadN X27 hx hby rfl rfl d8_7 (pc' := 8) rfl ?_
      refine own_getF X27 hx hby hZ hown (host := "") (Or.inl (hw _ (List.mem_of_getElem? (i := 26) rfl))) Via.refl eH27 F_o0_size d8_8 (pc' := 11) rfl (fun T29 X29 eH29 => ?_)
      refine own_icT X29 hx hby d8_11 (by decide) (by decide) (pc' := 108) (by decide) ?_
      refine own_aloadN X29 hx hby rfl rfl d8_108 (pc' := 109) rfl ?_
      refine own_iloadN X29 hx hby rfl d8_109 (pc' := 110) rfl ?_
      refine own_iloadN X29 hx hby rfl d8_110 (pc' := 111) rfl ?_
      refine own_private X29 hx hby hZ (y := (⟨"com/example/cross_town/crosstown/solve/NodeHeap", "place", "(II)V"⟩ : MethodName)) (rest := []) hown (hw _ (List.mem_of_getElem? (i := 32) rfl)) (hw _ (List.mem_of_getElem? (i := 33) rfl)) (hw _ (List.mem_of_getElem? (i := 2) rfl)) (hw _ (List.mem_of_getElem? (i := 34) rfl)) (hw _ (List.mem_of_getElem? (i := 35) rfl)) (hw _ (List.mem_of_getElem? (i := 3) rfl)) (by decide) (rm61 l Z a0 hw [] o0 p2 heap_o0 position_o0 y1 y1 y2 y3 (P.set y1.toNatClampNeg (0 : Int32)) h27 n0 Z0 E_o0 F_o0_heap F_o0_position V_heap_o0 V_position_o0 (by first | assumption | rfl | (simp only [List.length_set]; first | assumption | rfl)) rg_p2 g_heap_o0 ne_o0_heap_o0 ne_position_o0_heap_o0 g_position_o0 ne_o0_position_o0) eH29 (by rw [hml]; rfl) (a := o0) E_o0 (argsL := [(.int (1 : Int32)), (.int p2)]) rfl (lenOf pd_1 rfl) rfl d8_111 (pc' := 114) rfl (by decide) (W := 0) (Nat.le_of_eq rfl) (by decide) (by decide) (by decide) (fun T30 h30 Lc30 v30r X30 eH30 hQ30 => ?_)
      obtain ⟨rfl, Nq30, Kq30, gq30_0, gq30_1⟩ := hQ30
      have N30 := Fr.app N27 Nq30
      replace E_o0 := E_o0.keep Kq30
      replace F_o0_heap := F_o0_heap.keep Kq30 (ninS ne_o0_heap_o0 (ninS ne_o0_position_o0 nin0))
      replace F_o0_position := F_o0_position.keep Kq30 (ninS ne_o0_heap_o0 (ninS ne_o0_position_o0 nin0))
      replace F_o0_key := F_o0_key.keep Kq30 (ninS ne_o0_heap_o0 (ninS ne_o0_position_o0 nin0))
      replace F_o0_size := F_o0_size.keep Kq30 (ninS ne_o0_heap_o0 (ninS ne_o0_position_o0 nin0))
      replace V_key_o0 := V_key_o0.keep Kq30 (ninS ne_key_o0_heap_o0 (ninS ne_key_o0_position_o0 nin0))
      replace K0 := K0.trans Kq30 (allS (Or.inl (by simp)) (allS (Or.inl (by simp)) all0))
      have V_heap_o0 := gq30_0
      have hl31 : ((P.set y1.toNatClampNeg (0 : Int32)).set p2.toNatClampNeg (1 : Int32)).length = 4 := by (repeat' split) <;> (simp only [List.length_set]; first | assumption | rfl)
      have V_position_o0 := gq30_1
      replace Z0 := Nat.le_trans Z0 Kq30.1
      have o0 := mt (own_klt nnk y2 y1).mpr hc7
      have o1 := mt (own_kle nnk p2 y1).mpr hc23
      have HH : Hp3 y1 p2 y2 ((P.set y1.toNatClampNeg (0 : Int32)).set p2.toNatClampNeg (1 : Int32)) K := ⟨rg_y1, rg_p2, rg_y2, (by rw [own_pvs (by simp only [List.length_set]; exact hl_P) rg_p2 rg_y1, if_neg d_p2_y1, own_pvs hl_P rg_y1 rg_y1, if_pos rfl]; first | done | decide), (by rw [own_pvs (by simp only [List.length_set]; exact hl_P) rg_p2 rg_p2, if_pos rfl]; first | done | decide), (by rw [own_pvs (by simp only [List.length_set]; exact hl_P) rg_p2 rg_y2, if_neg d_p2_y2, own_pvs hl_P rg_y1 rg_y2, if_neg d_y1_y2]; exact pv_y2), (by omega), (by omega)⟩
      have HA : ∀ z : Int32, (0 ≤ z.toInt ∧ z.toInt < 4) → pv P z = -1 → pv ((P.set y1.toNatClampNeg (0 : Int32)).set p2.toNatClampNeg (1 : Int32)) z = -1 := fun z rgz hz => (by rw [own_pvs (by simp only [List.length_set]; exact hl_P) rg_p2 rgz, if_neg (own_pne pv_p2 hz (by decide)), own_pvs hl_P rg_y1 rgz, if_neg (own_pne pv_y1 hz (by decide))]; exact hz)
      have HB : ∀ m : Int, m ≤ kv K p2 → m ≤ kv K y1 → m ≤ kv K y2 → m ≤ kv K y1 ∧ m ≤ kv K p2 ∧ m ≤ kv K y2 := fun m m0 m1 m2 => ⟨(by omega), (by omega), (by omega)⟩
      exact own_retV X30 hx hby Bd.notSynchronized Bd.returns d8_114 (by decide) (by decide) eH30 ⟨rfl, N30, K0, (by simp only [if_neg hc7, if_neg hc23]; exact V_position_o0), (by simp only [if_neg hc7, if_neg hc23]; exact V_heap_o0), (by simp only [if_neg hc7, if_neg hc23]; exact HH), (by simp only [if_neg hc7, if_neg hc23]; exact HA), (by simp only [if_neg hc7, if_neg hc23]; exact HB)⟩
theorem ef4n0 (m : MethodId) (x0 : Addr) (x1 : Int32) (x2 : UInt64) : entryFrame m #[(.ref x0), (.int x1), (.double x2)] 5 = mkF m 0 #[.val (.ref x0), .val (.int x1), .val (.double x2), .second, .unset] [] := by first | (simp [entryFrame, mkF, argsToLocals, Value.category]; done) | rfl
def Q4n0 (Z : State) (o0 : Addr) (p1 : Int32) (f2 : UInt64) (heap_o0 : Addr) (position_o0 : Addr) (key_o0 : Addr) (y0 : Int32) (y1 : Int32) (y2 : Int32) (y3 : Int32) (P : List Int32) (K : List UInt64) (h0 : Heap) (n0 : Nat) (v : Option Value) (h : Heap) (L : List Loc) : Prop := v = none ∧ Fr n0 L ∧ Keep h0 h [o0, key_o0, heap_o0, position_o0] ∧ Exa Z h o0 "com/example/cross_town/crosstown/solve/NodeHeap" ∧ Fld Z h o0 "com/example/cross_town/crosstown/solve/NodeHeap" "heap" "[I" (.ref heap_o0) ∧ Fld Z h o0 "com/example/cross_town/crosstown/solve/NodeHeap" "position" "[I" (.ref position_o0) ∧ Fld Z h o0 "com/example/cross_town/crosstown/solve/NodeHeap" "key" "[D" (.ref key_o0) ∧ Fld Z h o0 "com/example/cross_town/crosstown/solve/NodeHeap" "size" "I" (.int (1 : Int32)) ∧ Ary tr Z h key_o0 .double ((K.set p1.toNatClampNeg f2).map Value.double) ∧ Ary tr Z h heap_o0 .int [(.int p1), (.int y1), (.int y2), (.int y3)] ∧ Ary tr Z h position_o0 .int ((P.set p1.toNatClampNeg (0 : Int32)).map Value.int) ∧ (Hp1 p1 (P.set p1.toNatClampNeg (0 : Int32)) (K.set p1.toNatClampNeg f2)) ∧ (NNk (K.set p1.toNatClampNeg f2)) ∧ (∀ z : Int32, (0 ≤ z.toInt ∧ z.toInt < 4) → ¬ p1.toInt = z.toInt → pv P z = -1 → pv (P.set p1.toNatClampNeg (0 : Int32)) z = -1)
set_option maxRecDepth 65536 in
set_option maxHeartbeats 40000000 in
theorem rm4n0 (l : Launch) (Z : State) (a0 : Array Value) (hw : ∀ d ∈ tables_1, d.before a0 Z = true) (ws : List Jvm.Cond) (o0 : Addr) (p1 : Int32) (f2 : UInt64) (heap_o0 : Addr) (position_o0 : Addr) (key_o0 : Addr) (y0 : Int32) (y1 : Int32) (y2 : Int32) (y3 : Int32) (P : List Int32) (K : List UInt64) (h0 : Heap) (n0 : Nat) (Z0 : n0 ≤ h0.size) (E_o0 : Exa Z h0 o0 "com/example/cross_town/crosstown/solve/NodeHeap") (F_o0_heap : Fld Z h0 o0 "com/example/cross_town/crosstown/solve/NodeHeap" "heap" "[I" (.ref heap_o0)) (F_o0_position : Fld Z h0 o0 "com/example/cross_town/crosstown/solve/NodeHeap" "position" "[I" (.ref position_o0)) (F_o0_key : Fld Z h0 o0 "com/example/cross_town/crosstown/solve/NodeHeap" "key" "[D" (.ref key_o0)) (F_o0_size : Fld Z h0 o0 "com/example/cross_town/crosstown/solve/NodeHeap" "size" "I" (.int (0 : Int32))) (V_heap_o0 : Ary tr Z h0 heap_o0 .int [(.int y0), (.int y1), (.int y2), (.int y3)]) (V_position_o0 : Ary tr Z h0 position_o0 .int (P.map Value.int)) (hl_P : (P.length = 4)) (V_key_o0 : Ary tr Z h0 key_o0 .double (K.map Value.double)) (hl_K : (K.length = 4)) (nnk : (NNk K)) (nnf : (FP.Core.val64 f2 ≠ .nan)) (rg_p1 : (0 ≤ p1.toInt ∧ p1.toInt < 4)) (pv_p1 : (pv P p1 = -1)) (g_o0 : n0 ≤ o0) (ne_heap_o0_o0 : heap_o0 ≠ o0) (ne_position_o0_o0 : position_o0 ≠ o0) (ne_key_o0_o0 : key_o0 ≠ o0) (g_key_o0 : n0 ≤ key_o0) (ne_heap_o0_key_o0 : heap_o0 ≠ key_o0) (ne_position_o0_key_o0 : position_o0 ≠ key_o0) (g_heap_o0 : n0 ≤ heap_o0) (ne_position_o0_heap_o0 : position_o0 ≠ heap_o0) (g_position_o0 : n0 ≤ position_o0) :
    MetFree l (⟨"com/example/cross_town/crosstown/solve/NodeHeap", "insertOrLower", "(ID)V"⟩ : MethodName) (head1 (Jvm.Cond.code (⟨"com/example/cross_town/crosstown/solve/NodeHeap", "insertOrLower", "(ID)V"⟩ : MethodName) prog_33_method_3_code 5 none :: ws) ({ frames := 2, cells := 0, slots := 0, locals := 30 } : Room)) (fun a U => a = #[(.ref o0), (.int p1), (.double f2)] ∧ Z.Warmed39 U.vm ∧ U.heap = h0) (fun _ _ _ _ _ => True) (fun _ U o U' => ∃ v L, o = .returned v ∧ Q4n0 Z o0 p1 f2 heap_o0 position_o0 key_o0 y0 y1 y2 y3 P K h0 n0 v U'.heap L ∧ FrameEnd U o U' L ({ frames := 2, cells := 0, slots := 0, locals := 30 } : Room).cells ({ frames := 2, cells := 0, slots := 0, locals := 30 } : Room).slots) := by
  refine MetFree.of_bodySF (plainFor_of_name pn_com_example_cross_town_crosstown_solve_NodeHeap) hisR ?_
  intro p e s m args below meth c s₁ Bd hml0 hP hK
  obtain ⟨rfl, hZ, hh⟩ := hP
  have hx := Bd.exec
  have hby := Bd.bytes
  have hml : c.maxLocals = 5 := hml0
  have hown : s.vm.findClass "com/example/cross_town/crosstown/solve/NodeHeap" = some m.cls := findClass_of_methodNamed Bd.named
  have hnm := (name_of_methodNamed Bd.named Bd.method).1
  have X0 : Stand p l e ({ frames := 2, cells := 0, slots := 0, locals := 30 } : Room) s m #[(.ref o0), (.int p1), (.double f2)] below meth c s₁ [] 0 0 := Stand.of_body Bd
  have eH0 : s₁.heap = h0 := by rw [← hh, Bd.state]; rfl
  have N0 := Fr.nil n0
  have K0 := Keep.refl h0 [o0, key_o0, heap_o0, position_o0]
  show Gt p.tables e below (fun o U' => ∃ v L, o = .returned v ∧ Q4n0 Z o0 p1 f2 heap_o0 position_o0 key_o0 y0 y1 y2 y3 P K h0 n0 v U'.heap L ∧ FrameEnd s o U' L ({ frames := 2, cells := 0, slots := 0, locals := 30 } : Room).cells ({ frames := 2, cells := 0, slots := 0, locals := 30 } : Room).slots) _
  refine own_cast (ef4n0 m o0 p1 f2) ?_
  refine own_aloadN X0 hx hby rfl rfl d4_0 (pc' := 1) rfl ?_
  refine own_getF X0 hx hby hZ hown (host := "") (Or.inl (hw _ (List.mem_of_getElem? (i := 13) rfl))) Via.refl eH0 F_o0_position d4_1 (pc' := 4) rfl (fun T1 X1 eH1 => ?_)
  refine own_iloadN X1 hx hby rfl d4_4 (pc' := 5) rfl ?_
  refine own_iaload X1 hx hby hZ eH1 V_position_o0 (own_rg0 rg_p1) (v := (.int (P.getD p1.toNatClampNeg 0))) (own_lget (own_rgl rg_p1 hl_P)) d4_5 (pc' := 6) rfl ?_
  refine own_istore X1 hx hby (L' := #[.val (.ref o0), .val (.int p1), .val (.double f2), .second, .val (.int (P.getD p1.toNatClampNeg 0))]) rfl d4_6 (pc' := 8) rfl ?_
  refine own_iload X1 hx hby rfl d4_8 (pc' := 10) rfl ?_
  refine own_iconst X1 hx hby (v := (-1 : Int32)) (by decide) d4_10 (pc' := 11) rfl ?_
  have hk2 : (P.getD p1.toNatClampNeg 0) = (-1 : Int32) := own_pm pv_p1 (by decide)
  refine own_icF X1 hx hby d4_11 (own_ic_ne_p hk2) (pc' := 14) rfl ?_
  refine own_aloadN X1 hx hby rfl rfl d4_14 (pc' := 15) rfl ?_
  refine own_getF X1 hx hby hZ hown (host := "") (Or.inl (hw _ (List.mem_of_getElem? (i := 26) rfl))) Via.refl eH1 F_o0_size d4_15 (pc' := 18) rfl (fun T3 X3 eH3 => ?_)
  refine own_istore X3 hx hby (L' := #[.val (.ref o0), .val (.int p1), .val (.double f2), .second, .val (.int (0 : Int32))]) rfl d4_18 (pc' := 20) rfl ?_
  refine own_aloadN X3 hx hby rfl rfl d4_20 (pc' := 21) rfl ?_
  refine own_dup X3 hx hby rfl d4_21 (pc' := 22) rfl ?_
  refine own_getF X3 hx hby hZ hown (host := "") (Or.inl (hw _ (List.mem_of_getElem? (i := 26) rfl))) Via.refl eH3 F_o0_size d4_22 (pc' := 25) rfl (fun T4 X4 eH4 => ?_)
  refine own_iconst X4 hx hby (v := (1 : Int32)) (by decide) d4_25 (pc' := 26) rfl ?_
  refine own_iadd X4 hx hby (v := (1 : Int32)) (by decide) d4_26 (pc' := 27) rfl ?_
  refine own_putF X4 hx hby hZ hown (host := "") (Or.inl (hw _ (List.mem_of_getElem? (i := 26) rfl))) Via.refl eH4 F_o0_size E_o0 (Or.inl (hw _ (List.mem_of_getElem? (i := 27) rfl))) (hw _ (List.mem_of_getElem? (i := 2) rfl)) (ty := .int) (by decide) rfl rfl d4_27 (pc' := 30) rfl (fun T5 h5 X5 eH5 W5 => ?_)
  replace E_o0 := E_o0.wr W5
  replace F_o0_heap := F_o0_heap.other W5 (Or.inr (slot_ne (Or.inr (hw _ (List.mem_of_getElem? (i := 12) rfl))) (Or.inl (hw _ (List.mem_of_getElem? (i := 27) rfl))) (by decide) (t := (.array .int)) (t' := .int) (by decide) (by decide)))
  replace F_o0_position := F_o0_position.other W5 (Or.inr (slot_ne (Or.inr (hw _ (List.mem_of_getElem? (i := 14) rfl))) (Or.inl (hw _ (List.mem_of_getElem? (i := 27) rfl))) (by decide) (t := (.array .int)) (t' := .int) (by decide) (by decide)))
  replace F_o0_key := F_o0_key.other W5 (Or.inr (slot_ne (Or.inr (hw _ (List.mem_of_getElem? (i := 16) rfl))) (Or.inl (hw _ (List.mem_of_getElem? (i := 27) rfl))) (by decide) (t := (.array .double)) (t' := .int) (by decide) (by decide)))
  replace F_o0_size := F_o0_size.same W5
  replace V_heap_o0 := V_heap_o0.other W5 ne_heap_o0_o0
  replace V_position_o0 := V_position_o0.other W5 ne_position_o0_o0
  replace V_key_o0 := V_key_o0.other W5 ne_key_o0_o0
  have N5 := Fr.snoc X5 N0 g_o0
  replace K0 := K0.wr W5 (Or.inl (by simp))
  replace Z0 := Nat.le_trans Z0 (Nat.le_of_eq W5.size.symm)
  refine own_aloadN X5 hx hby rfl rfl d4_30 (pc' := 31) rfl ?_
  refine own_getF X5 hx hby hZ hown (host := "") (Or.inl (hw _ (List.mem_of_getElem? (i := 15) rfl))) Via.refl eH5 F_o0_key d4_31 (pc' := 34) rfl (fun T6 X6 eH6 => ?_)
  refine own_iloadN X6 hx hby rfl d4_34 (pc' := 35) rfl ?_
  refine own_dloadN X6 hx hby rfl d4_35 (pc' := 36) rfl ?_
  refine own_dastore X6 hx hby hZ eH6 V_key_o0 (own_rg0 rg_p1) (n := p1.toNatClampNeg) rfl (by rw [List.length_map]; exact own_rgl rg_p1 hl_K) d4_36 (pc' := 37) rfl (fun T7 h7 X7 eH7 W7 => ?_)
  replace E_o0 := E_o0.wr W7
  replace F_o0_heap := F_o0_heap.other W7 (Or.inl (Ne.symm ne_key_o0_o0))
  replace F_o0_position := F_o0_position.other W7 (Or.inl (Ne.symm ne_key_o0_o0))
  replace F_o0_key := F_o0_key.other W7 (Or.inl (Ne.symm ne_key_o0_o0))
  replace F_o0_size := F_o0_size.other W7 (Or.inl (Ne.symm ne_key_o0_o0))
  replace V_heap_o0 := V_heap_o0.other W7 ne_heap_o0_key_o0
  replace V_position_o0 := V_position_o0.other W7 ne_position_o0_key_o0
  have N7 := Fr.snoc X7 N5 g_key_o0
  replace K0 := K0.wr W7 (Or.inl (by simp))
  replace Z0 := Nat.le_trans Z0 (Nat.le_of_eq W7.size.symm)
  have hl8 : (K.set p1.toNatClampNeg f2).length = 4 := by rw [List.length_set]; exact hl_K
  replace V_key_o0 : Ary tr Z h7 key_o0 .double ((K.set p1.toNatClampNeg f2).map Value.double) := by rw [List.map_set]; exact V_key_o0.set W7
  refine own_aloadN X7 hx hby rfl rfl d4_37 (pc' := 38) rfl ?_
  refine own_iload X7 hx hby rfl d4_38 (pc' := 40) rfl ?_
  refine own_iloadN X7 hx hby rfl d4_40 (pc' := 41) rfl ?_
  refine own_private X7 hx hby hZ (y := (⟨"com/example/cross_town/crosstown/solve/NodeHeap", "siftUp", "(II)V"⟩ : MethodName)) (rest := []) hown (hw _ (List.mem_of_getElem? (i := 28) rfl)) (hw _ (List.mem_of_getElem? (i := 29) rfl)) (hw _ (List.mem_of_getElem? (i := 2) rfl)) (hw _ (List.mem_of_getElem? (i := 30) rfl)) (hw _ (List.mem_of_getElem? (i := 31) rfl)) (hw _ (List.mem_of_getElem? (i := 3) rfl)) (by decide) (rm5n0 l Z a0 hw [] o0 p1 heap_o0 position_o0 key_o0 y0 y1 y2 y3 P (K.set p1.toNatClampNeg f2) h7 n0 Z0 E_o0 F_o0_heap F_o0_position F_o0_key V_heap_o0 V_position_o0 (by first | assumption | rfl | (simp only [List.length_set]; first | assumption | rfl)) V_key_o0 (by first | assumption | rfl | (simp only [List.length_set]; first | assumption | rfl)) rg_p1 (own_nnk nnk nnf (own_rgl rg_p1 hl_K)) pv_p1 g_heap_o0 (Ne.symm ne_heap_o0_o0) ne_position_o0_heap_o0 g_position_o0 (Ne.symm ne_position_o0_o0) (Ne.symm ne_position_o0_key_o0) (Ne.symm ne_heap_o0_key_o0)) eH7 (by rw [hml]; rfl) (a := o0) E_o0 (argsL := [(.int (0 : Int32)), (.int p1)]) rfl (lenOf pd_1 rfl) rfl d4_41 (pc' := 44) rfl (by decide) (W := 0) (Nat.le_of_eq rfl) (by decide) (by decide) (by decide) (fun T9 h9 Lc9 v9r X9 eH9 hQ9 => ?_)
  obtain ⟨rfl, Nq9, Kq9, gq9_0, gq9_1, gq9_2, gq9_3⟩ := hQ9
  have N9 := Fr.app N7 Nq9
  replace E_o0 := E_o0.keep Kq9
  replace F_o0_heap := F_o0_heap.keep Kq9 (ninS (Ne.symm ne_position_o0_o0) (ninS (Ne.symm ne_heap_o0_o0) nin0))
  replace F_o0_position := F_o0_position.keep Kq9 (ninS (Ne.symm ne_position_o0_o0) (ninS (Ne.symm ne_heap_o0_o0) nin0))
  replace F_o0_key := F_o0_key.keep Kq9 (ninS (Ne.symm ne_position_o0_o0) (ninS (Ne.symm ne_heap_o0_o0) nin0))
  replace F_o0_size := F_o0_size.keep Kq9 (ninS (Ne.symm ne_position_o0_o0) (ninS (Ne.symm ne_heap_o0_o0) nin0))
  replace V_key_o0 := V_key_o0.keep Kq9 (ninS (Ne.symm ne_position_o0_key_o0) (ninS (Ne.symm ne_heap_o0_key_o0) nin0))
  replace K0 := K0.trans Kq9 (allS (Or.inl (by simp)) (allS (Or.inl (by simp)) all0))
  have hl10 : (P.set p1.toNatClampNeg (0 : Int32)).length = 4 := by (repeat' split) <;> (simp only [List.length_set]; first | assumption | rfl)
  have V_position_o0 := gq9_0
  have V_heap_o0 := gq9_1
  have hp_9 : Hp1 p1 (P.set p1.toNatClampNeg (0 : Int32)) (K.set p1.toNatClampNeg f2) := gq9_2
  have ab_9 : ∀ z : Int32, (0 ≤ z.toInt ∧ z.toInt < 4) → ¬ p1.toInt = z.toInt → pv P z = -1 → pv (P.set p1.toNatClampNeg (0 : Int32)) z = -1 := gq9_3
  replace Z0 := Nat.le_trans Z0 Kq9.1
  exact own_retV X9 hx hby Bd.notSynchronized Bd.returns d4_44 (by decide) (by decide) eH9 ⟨rfl, N9, K0, E_o0, F_o0_heap, F_o0_position, F_o0_key, F_o0_size, V_key_o0, V_heap_o0, V_position_o0, hp_9, (own_nnk nnk nnf (own_rgl rg_p1 hl_K)), ab_9⟩
theorem ef4n1 (m : MethodId) (x0 : Addr) (x1 : Int32) (x2 : UInt64) : entryFrame m #[(.ref x0), (.int x1), (.double x2)] 5 = mkF m 0 #[.val (.ref x0), .val (.int x1), .val (.double x2), .second, .unset] [] := by first | (simp [entryFrame, mkF, argsToLocals, Value.category]; done) | rfl
def Q4n1 (Z : State) (o0 : Addr) (p1 : Int32) (f2 : UInt64) (heap_o0 : Addr) (position_o0 : Addr) (key_o0 : Addr) (y0 : Int32) (y1 : Int32) (y2 : Int32) (y3 : Int32) (P : List Int32) (K : List UInt64) (h0 : Heap) (n0 : Nat) (v : Option Value) (h : Heap) (L : List Loc) : Prop := v = none ∧ Fr n0 L ∧ Keep h0 h [o0, key_o0, heap_o0, position_o0] ∧ Exa Z h o0 "com/example/cross_town/crosstown/solve/NodeHeap" ∧ Fld Z h o0 "com/example/cross_town/crosstown/solve/NodeHeap" "heap" "[I" (.ref heap_o0) ∧ Fld Z h o0 "com/example/cross_town/crosstown/solve/NodeHeap" "position" "[I" (.ref position_o0) ∧ Fld Z h o0 "com/example/cross_town/crosstown/solve/NodeHeap" "key" "[D" (.ref key_o0) ∧ Fld Z h o0 "com/example/cross_town/crosstown/solve/NodeHeap" "size" "I" (.int (2 : Int32)) ∧ Ary tr Z h key_o0 .double ((K.set p1.toNatClampNeg f2).map Value.double) ∧ Ary tr Z h heap_o0 .int [(.int (if dle ((K.set p1.toNatClampNeg f2).getD y0.toNatClampNeg 0) ((K.set p1.toNatClampNeg f2).getD p1.toNatClampNeg 0) then y0 else p1)), (.int (if dle ((K.set p1.toNatClampNeg f2).getD y0.toNatClampNeg 0) ((K.set p1.toNatClampNeg f2).getD p1.toNatClampNeg 0) then p1 else y0)), (.int y2), (.int y3)] ∧ Ary tr Z h position_o0 .int ((if dle ((K.set p1.toNatClampNeg f2).getD y0.toNatClampNeg 0) ((K.set p1.toNatClampNeg f2).getD p1.toNatClampNeg 0) then (P.set p1.toNatClampNeg (1 : Int32)) else ((P.set y0.toNatClampNeg (1 : Int32)).set p1.toNatClampNeg (0 : Int32))).map Value.int) ∧ (Hp2 (if dle ((K.set p1.toNatClampNeg f2).getD y0.toNatClampNeg 0) ((K.set p1.toNatClampNeg f2).getD p1.toNatClampNeg 0) then y0 else p1) (if dle ((K.set p1.toNatClampNeg f2).getD y0.toNatClampNeg 0) ((K.set p1.toNatClampNeg f2).getD p1.toNatClampNeg 0) then p1 else y0) (if dle ((K.set p1.toNatClampNeg f2).getD y0.toNatClampNeg 0) ((K.set p1.toNatClampNeg f2).getD p1.toNatClampNeg 0) then (P.set p1.toNatClampNeg (1 : Int32)) else ((P.set y0.toNatClampNeg (1 : Int32)).set p1.toNatClampNeg (0 : Int32))) (K.set p1.toNatClampNeg f2)) ∧ (NNk (K.set p1.toNatClampNeg f2)) ∧ (∀ z : Int32, (0 ≤ z.toInt ∧ z.toInt < 4) → ¬ p1.toInt = z.toInt → pv P z = -1 → pv (if dle ((K.set p1.toNatClampNeg f2).getD y0.toNatClampNeg 0) ((K.set p1.toNatClampNeg f2).getD p1.toNatClampNeg 0) then (P.set p1.toNatClampNeg (1 : Int32)) else ((P.set y0.toNatClampNeg (1 : Int32)).set p1.toNatClampNeg (0 : Int32))) z = -1)
set_option maxRecDepth 65536 in
set_option maxHeartbeats 40000000 in
theorem rm4n1 (l : Launch) (Z : State) (a0 : Array Value) (hw : ∀ d ∈ tables_1, d.before a0 Z = true) (ws : List Jvm.Cond) (o0 : Addr) (p1 : Int32) (f2 : UInt64) (heap_o0 : Addr) (position_o0 : Addr) (key_o0 : Addr) (y0 : Int32) (y1 : Int32) (y2 : Int32) (y3 : Int32) (P : List Int32) (K : List UInt64) (h0 : Heap) (n0 : Nat) (Z0 : n0 ≤ h0.size) (E_o0 : Exa Z h0 o0 "com/example/cross_town/crosstown/solve/NodeHeap") (F_o0_heap : Fld Z h0 o0 "com/example/cross_town/crosstown/solve/NodeHeap" "heap" "[I" (.ref heap_o0)) (F_o0_position : Fld Z h0 o0 "com/example/cross_town/crosstown/solve/NodeHeap" "position" "[I" (.ref position_o0)) (F_o0_key : Fld Z h0 o0 "com/example/cross_town/crosstown/solve/NodeHeap" "key" "[D" (.ref key_o0)) (F_o0_size : Fld Z h0 o0 "com/example/cross_town/crosstown/solve/NodeHeap" "size" "I" (.int (1 : Int32))) (V_heap_o0 : Ary tr Z h0 heap_o0 .int [(.int y0), (.int y1), (.int y2), (.int y3)]) (V_position_o0 : Ary tr Z h0 position_o0 .int (P.map Value.int)) (hl_P : (P.length = 4)) (V_key_o0 : Ary tr Z h0 key_o0 .double (K.map Value.double)) (hl_K : (K.length = 4)) (nnk : (NNk K)) (nnf : (FP.Core.val64 f2 ≠ .nan)) (rg_p1 : (0 ≤ p1.toInt ∧ p1.toInt < 4)) (pv_p1 : (pv P p1 = -1)) (hp : (Hp1 y0 P K)) (g_o0 : n0 ≤ o0) (ne_heap_o0_o0 : heap_o0 ≠ o0) (ne_position_o0_o0 : position_o0 ≠ o0) (ne_key_o0_o0 : key_o0 ≠ o0) (g_key_o0 : n0 ≤ key_o0) (ne_heap_o0_key_o0 : heap_o0 ≠ key_o0) (ne_position_o0_key_o0 : position_o0 ≠ key_o0) (g_heap_o0 : n0 ≤ heap_o0) (ne_position_o0_heap_o0 : position_o0 ≠ heap_o0) (g_position_o0 : n0 ≤ position_o0) :
    MetFree l (⟨"com/example/cross_town/crosstown/solve/NodeHeap", "insertOrLower", "(ID)V"⟩ : MethodName) (head1 (Jvm.Cond.code (⟨"com/example/cross_town/crosstown/solve/NodeHeap", "insertOrLower", "(ID)V"⟩ : MethodName) prog_33_method_3_code 5 none :: ws) ({ frames := 2, cells := 0, slots := 0, locals := 30 } : Room)) (fun a U => a = #[(.ref o0), (.int p1), (.double f2)] ∧ Z.Warmed39 U.vm ∧ U.heap = h0) (fun _ _ _ _ _ => True) (fun _ U o U' => ∃ v L, o = .returned v ∧ Q4n1 Z o0 p1 f2 heap_o0 position_o0 key_o0 y0 y1 y2 y3 P K h0 n0 v U'.heap L ∧ FrameEnd U o U' L ({ frames := 2, cells := 0, slots := 0, locals := 30 } : Room).cells ({ frames := 2, cells := 0, slots := 0, locals := 30 } : Room).slots) := by
  refine MetFree.of_bodySF (plainFor_of_name pn_com_example_cross_town_crosstown_solve_NodeHeap) hisR ?_
  intro p e s m args below meth c s₁ Bd hml0 hP hK
  obtain ⟨rfl, hZ, hh⟩ := hP
  have hx := Bd.exec
  have hby := Bd.bytes
  have hml : c.maxLocals = 5 := hml0
  have hown : s.vm.findClass "com/example/cross_town/crosstown/solve/NodeHeap" = some m.cls := findClass_of_methodNamed Bd.named
  have hnm := (name_of_methodNamed Bd.named Bd.method).1
  have X0 : Stand p l e ({ frames := 2, cells := 0, slots := 0, locals := 30 } : Room) s m #[(.ref o0), (.int p1), (.double f2)] below meth c s₁ [] 0 0 := Stand.of_body Bd
  have eH0 : s₁.heap = h0 := by rw [← hh, Bd.state]; rfl
  have N0 := Fr.nil n0
  have K0 := Keep.refl h0 [o0, key_o0, heap_o0, position_o0]
  show Gt p.tables e below (fun o U' => ∃ v L, o = .returned v ∧ Q4n1 Z o0 p1 f2 heap_o0 position_o0 key_o0 y0 y1 y2 y3 P K h0 n0 v U'.heap L ∧ FrameEnd s o U' L ({ frames := 2, cells := 0, slots := 0, locals := 30 } : Room).cells ({ frames := 2, cells := 0, slots := 0, locals := 30 } : Room).slots) _
  refine own_cast (ef4n1 m o0 p1 f2) ?_
  obtain ⟨rg_y0, pv_y0⟩ := hp
  have d_y0_p1 : ¬ y0.toInt = p1.toInt := own_pne pv_y0 pv_p1 (by decide)
  have d_p1_y0 : ¬ p1.toInt = y0.toInt := own_pne pv_p1 pv_y0 (by decide)
  refine own_aloadN X0 hx hby rfl rfl d4_0 (pc' := 1) rfl ?_
  refine own_getF X0 hx hby hZ hown (host := "") (Or.inl (hw _ (List.mem_of_getElem? (i := 13) rfl))) Via.refl eH0 F_o0_position d4_1 (pc' := 4) rfl (fun T1 X1 eH1 => ?_)
  refine own_iloadN X1 hx hby rfl d4_4 (pc' := 5) rfl ?_
  refine own_iaload X1 hx hby hZ eH1 V_position_o0 (own_rg0 rg_p1) (v := (.int (P.getD p1.toNatClampNeg 0))) (own_lget (own_rgl rg_p1 hl_P)) d4_5 (pc' := 6) rfl ?_
  refine own_istore X1 hx hby (L' := #[.val (.ref o0), .val (.int p1), .val (.double f2), .second, .val (.int (P.getD p1.toNatClampNeg 0))]) rfl d4_6 (pc' := 8) rfl ?_
  refine own_iload X1 hx hby rfl d4_8 (pc' := 10) rfl ?_
  refine own_iconst X1 hx hby (v := (-1 : Int32)) (by decide) d4_10 (pc' := 11) rfl ?_
  have hk2 : (P.getD p1.toNatClampNeg 0) = (-1 : Int32) := own_pm pv_p1 (by decide)
  refine own_icF X1 hx hby d4_11 (own_ic_ne_p hk2) (pc' := 14) rfl ?_
  refine own_aloadN X1 hx hby rfl rfl d4_14 (pc' := 15) rfl ?_
  refine own_getF X1 hx hby hZ hown (host := "") (Or.inl (hw _ (List.mem_of_getElem? (i := 26) rfl))) Via.refl eH1 F_o0_size d4_15 (pc' := 18) rfl (fun T3 X3 eH3 => ?_)
  refine own_istore X3 hx hby (L' := #[.val (.ref o0), .val (.int p1), .val (.double f2), .second, .val (.int (1 : Int32))]) rfl d4_18 (pc' := 20) rfl ?_
  refine own_aloadN X3 hx hby rfl rfl d4_20 (pc' := 21) rfl ?_
  refine own_dup X3 hx hby rfl d4_21 (pc' := 22) rfl ?_
  refine own_getF X3 hx hby hZ hown (host := "") (Or.inl (hw _ (List.mem_of_getElem? (i := 26) rfl))) Via.refl eH3 F_o0_size d4_22 (pc' := 25) rfl (fun T4 X4 eH4 => ?_)
  refine own_iconst X4 hx hby (v := (1 : Int32)) (by decide) d4_25 (pc' := 26) rfl ?_
  refine own_iadd X4 hx hby (v := (2 : Int32)) (by decide) d4_26 (pc' := 27) rfl ?_
  refine own_putF X4 hx hby hZ hown (host := "") (Or.inl (hw _ (List.mem_of_getElem? (i := 26) rfl))) Via.refl eH4 F_o0_size E_o0 (Or.inl (hw _ (List.mem_of_getElem? (i := 27) rfl))) (hw _ (List.mem_of_getElem? (i := 2) rfl)) (ty := .int) (by decide) rfl rfl d4_27 (pc' := 30) rfl (fun T5 h5 X5 eH5 W5 => ?_)
  replace E_o0 := E_o0.wr W5
  replace F_o0_heap := F_o0_heap.other W5 (Or.inr (slot_ne (Or.inr (hw _ (List.mem_of_getElem? (i := 12) rfl))) (Or.inl (hw _ (List.mem_of_getElem? (i := 27) rfl))) (by decide) (t := (.array .int)) (t' := .int) (by decide) (by decide)))
  replace F_o0_position := F_o0_position.other W5 (Or.inr (slot_ne (Or.inr (hw _ (List.mem_of_getElem? (i := 14) rfl))) (Or.inl (hw _ (List.mem_of_getElem? (i := 27) rfl))) (by decide) (t := (.array .int)) (t' := .int) (by decide) (by decide)))
  replace F_o0_key := F_o0_key.other W5 (Or.inr (slot_ne (Or.inr (hw _ (List.mem_of_getElem? (i := 16) rfl))) (Or.inl (hw _ (List.mem_of_getElem? (i := 27) rfl))) (by decide) (t := (.array .double)) (t' := .int) (by decide) (by decide)))
  replace F_o0_size := F_o0_size.same W5
  replace V_heap_o0 := V_heap_o0.other W5 ne_heap_o0_o0
  replace V_position_o0 := V_position_o0.other W5 ne_position_o0_o0
  replace V_key_o0 := V_key_o0.other W5 ne_key_o0_o0
  have N5 := Fr.snoc X5 N0 g_o0
  replace K0 := K0.wr W5 (Or.inl (by simp))
  replace Z0 := Nat.le_trans Z0 (Nat.le_of_eq W5.size.symm)
  refine own_aloadN X5 hx hby rfl rfl d4_30 (pc' := 31) rfl ?_
  refine own_getF X5 hx hby hZ hown (host := "") (Or.inl (hw _ (List.mem_of_getElem? (i := 15) rfl))) Via.refl eH5 F_o0_key d4_31 (pc' := 34) rfl (fun T6 X6 eH6 => ?_)
  refine own_iloadN X6 hx hby rfl d4_34 (pc' := 35) rfl ?_
  refine own_dloadN X6 hx hby rfl d4_35 (pc' := 36) rfl ?_
  refine own_dastore X6 hx hby hZ eH6 V_key_o0 (own_rg0 rg_p1) (n := p1.toNatClampNeg) rfl (by rw [List.length_map]; exact own_rgl rg_p1 hl_K) d4_36 (pc' := 37) rfl (fun T7 h7 X7 eH7 W7 => ?_)
  replace E_o0 := E_o0.wr W7
  replace F_o0_heap := F_o0_heap.other W7 (Or.inl (Ne.symm ne_key_o0_o0))
  replace F_o0_position := F_o0_position.other W7 (Or.inl (Ne.symm ne_key_o0_o0))
  replace F_o0_key := F_o0_key.other W7 (Or.inl (Ne.symm ne_key_o0_o0))
  replace F_o0_size := F_o0_size.other W7 (Or.inl (Ne.symm ne_key_o0_o0))
  replace V_heap_o0 := V_heap_o0.other W7 ne_heap_o0_key_o0
  replace V_position_o0 := V_position_o0.other W7 ne_position_o0_key_o0
  have N7 := Fr.snoc X7 N5 g_key_o0
  replace K0 := K0.wr W7 (Or.inl (by simp))
  replace Z0 := Nat.le_trans Z0 (Nat.le_of_eq W7.size.symm)
  have hl8 : (K.set p1.toNatClampNeg f2).length = 4 := by rw [List.length_set]; exact hl_K
  replace V_key_o0 : Ary tr Z h7 key_o0 .double ((K.set p1.toNatClampNeg f2).map Value.double) := by rw [List.map_set]; exact V_key_o0.set W7
  refine own_aloadN X7 hx hby rfl rfl d4_37 (pc' := 38) rfl ?_
  refine own_iload X7 hx hby rfl d4_38 (pc' := 40) rfl ?_
  refine own_iloadN X7 hx hby rfl d4_40 (pc' := 41) rfl ?_
  refine own_private X7 hx hby hZ (y := (⟨"com/example/cross_town/crosstown/solve/NodeHeap", "siftUp", "(II)V"⟩ : MethodName)) (rest := []) hown (hw _ (List.mem_of_getElem? (i := 28) rfl)) (hw _ (List.mem_of_getElem? (i := 29) rfl)) (hw _ (List.mem_of_getElem? (i := 2) rfl)) (hw _ (List.mem_of_getElem? (i := 30) rfl)) (hw _ (List.mem_of_getElem? (i := 31) rfl)) (hw _ (List.mem_of_getElem? (i := 3) rfl)) (by decide) (rm5n1 l Z a0 hw [] o0 p1 heap_o0 position_o0 key_o0 y0 y1 y2 y3 P (K.set p1.toNatClampNeg f2) h7 n0 Z0 E_o0 F_o0_heap F_o0_position F_o0_key V_heap_o0 V_position_o0 (by first | assumption | rfl | (simp only [List.length_set]; first | assumption | rfl)) V_key_o0 (by first | assumption | rfl | (simp only [List.length_set]; first | assumption | rfl)) rg_p1 (own_nnk nnk nnf (own_rgl rg_p1 hl_K)) pv_p1 rg_y0 pv_y0 g_heap_o0 (Ne.symm ne_heap_o0_o0) ne_position_o0_heap_o0 g_position_o0 (Ne.symm ne_position_o0_o0) (Ne.symm ne_position_o0_key_o0) (Ne.symm ne_heap_o0_key_o0)) eH7 (by rw [hml]; rfl) (a := o0) E_o0 (argsL := [(.int (1 : Int32)), (.int p1)]) rfl (lenOf pd_1 rfl) rfl d4_41 (pc' := 44) rfl (by decide) (W := 0) (Nat.le_of_eq rfl) (by decide) (by decide) (by decide) (fun T9 h9 Lc9 v9r X9 eH9 hQ9 => ?_)
  obtain ⟨rfl, Nq9, Kq9, gq9_0, gq9_1, gq9_2, gq9_3⟩ := hQ9
  have N9 := Fr.app N7 Nq9
  replace E_o0 := E_o0.keep Kq9
  replace F_o0_heap := F_o0_heap.keep Kq9 (ninS (Ne.symm ne_position_o0_o0) (ninS (Ne.symm ne_heap_o0_o0) nin0))
  replace F_o0_position := F_o0_position.keep Kq9 (ninS (Ne.symm ne_position_o0_o0) (ninS (Ne.symm ne_heap_o0_o0) nin0))
  replace F_o0_key := F_o0_key.keep Kq9 (ninS (Ne.symm ne_position_o0_o0) (ninS (Ne.symm ne_heap_o0_o0) nin0))
  replace F_o0_size := F_o0_size.keep Kq9 (ninS (Ne.symm ne_position_o0_o0) (ninS (Ne.symm ne_heap_o0_o0) nin0))
  replace V_key_o0 := V_key_o0.keep Kq9 (ninS (Ne.symm ne_position_o0_key_o0) (ninS (Ne.symm ne_heap_o0_key_o0) nin0))
  replace K0 := K0.trans Kq9 (allS (Or.inl (by simp)) (allS (Or.inl (by simp)) all0))
  have hl10 : (if dle ((K.set p1.toNatClampNeg f2).getD y0.toNatClampNeg 0) ((K.set p1.toNatClampNeg f2).getD p1.toNatClampNeg 0) then (P.set p1.toNatClampNeg (1 : Int32)) else ((P.set y0.toNatClampNeg (1 : Int32)).set p1.toNatClampNeg (0 : Int32))).length = 4 := by (repeat' split) <;> (simp only [List.length_set]; first | assumption | rfl)
  have V_position_o0 := gq9_0
  have V_heap_o0 := gq9_1
  have hp_9 : Hp2 (if dle ((K.set p1.toNatClampNeg f2).getD y0.toNatClampNeg 0) ((K.set p1.toNatClampNeg f2).getD p1.toNatClampNeg 0) then y0 else p1) (if dle ((K.set p1.toNatClampNeg f2).getD y0.toNatClampNeg 0) ((K.set p1.toNatClampNeg f2).getD p1.toNatClampNeg 0) then p1 else y0) (if dle ((K.set p1.toNatClampNeg f2).getD y0.toNatClampNeg 0) ((K.set p1.toNatClampNeg f2).getD p1.toNatClampNeg 0) then (P.set p1.toNatClampNeg (1 : Int32)) else ((P.set y0.toNatClampNeg (1 : Int32)).set p1.toNatClampNeg (0 : Int32))) (K.set p1.toNatClampNeg f2) := gq9_2
  have ab_9 : ∀ z : Int32, (0 ≤ z.toInt ∧ z.toInt < 4) → ¬ p1.toInt = z.toInt → pv P z = -1 → pv (if dle ((K.set p1.toNatClampNeg f2).getD y0.toNatClampNeg 0) ((K.set p1.toNatClampNeg f2).getD p1.toNatClampNeg 0) then (P.set p1.toNatClampNeg (1 : Int32)) else ((P.set y0.toNatClampNeg (1 : Int32)).set p1.toNatClampNeg (0 : Int32))) z = -1 := gq9_3
  replace Z0 := Nat.le_trans Z0 Kq9.1
  exact own_retV X9 hx hby Bd.notSynchronized Bd.returns d4_44 (by decide) (by decide) eH9 ⟨rfl, N9, K0, E_o0, F_o0_heap, F_o0_position, F_o0_key, F_o0_size, V_key_o0, V_heap_o0, V_position_o0, hp_9, (own_nnk nnk nnf (own_rgl rg_p1 hl_K)), ab_9⟩
theorem ef4n2 (m : MethodId) (x0 : Addr) (x1 : Int32) (x2 : UInt64) : entryFrame m #[(.ref x0), (.int x1), (.double x2)] 5 = mkF m 0 #[.val (.ref x0), .val (.int x1), .val (.double x2), .second, .unset] [] := by first | (simp [entryFrame, mkF, argsToLocals, Value.category]; done) | rfl
def Q4n2 (Z : State) (o0 : Addr) (p1 : Int32) (f2 : UInt64) (heap_o0 : Addr) (position_o0 : Addr) (key_o0 : Addr) (y0 : Int32) (y1 : Int32) (y2 : Int32) (y3 : Int32) (P : List Int32) (K : List UInt64) (h0 : Heap) (n0 : Nat) (v : Option Value) (h : Heap) (L : List Loc) : Prop := v = none ∧ Fr n0 L ∧ Keep h0 h [o0, key_o0, heap_o0, position_o0] ∧ Exa Z h o0 "com/example/cross_town/crosstown/solve/NodeHeap" ∧ Fld Z h o0 "com/example/cross_town/crosstown/solve/NodeHeap" "heap" "[I" (.ref heap_o0) ∧ Fld Z h o0 "com/example/cross_town/crosstown/solve/NodeHeap" "position" "[I" (.ref position_o0) ∧ Fld Z h o0 "com/example/cross_town/crosstown/solve/NodeHeap" "key" "[D" (.ref key_o0) ∧ Fld Z h o0 "com/example/cross_town/crosstown/solve/NodeHeap" "size" "I" (.int (3 : Int32)) ∧ Ary tr Z h key_o0 .double ((K.set p1.toNatClampNeg f2).map Value.double) ∧ Ary tr Z h heap_o0 .int [(.int (if dle ((K.set p1.toNatClampNeg f2).getD y0.toNatClampNeg 0) ((K.set p1.toNatClampNeg f2).getD p1.toNatClampNeg 0) then y0 else p1)), (.int y1), (.int (if dle ((K.set p1.toNatClampNeg f2).getD y0.toNatClampNeg 0) ((K.set p1.toNatClampNeg f2).getD p1.toNatClampNeg 0) then p1 else y0)), (.int y3)] ∧ Ary tr Z h position_o0 .int ((if dle ((K.set p1.toNatClampNeg f2).getD y0.toNatClampNeg 0) ((K.set p1.toNatClampNeg f2).getD p1.toNatClampNeg 0) then (P.set p1.toNatClampNeg (2 : Int32)) else ((P.set y0.toNatClampNeg (2 : Int32)).set p1.toNatClampNeg (0 : Int32))).map Value.int) ∧ (Hp3 (if dle ((K.set p1.toNatClampNeg f2).getD y0.toNatClampNeg 0) ((K.set p1.toNatClampNeg f2).getD p1.toNatClampNeg 0) then y0 else p1) y1 (if dle ((K.set p1.toNatClampNeg f2).getD y0.toNatClampNeg 0) ((K.set p1.toNatClampNeg f2).getD p1.toNatClampNeg 0) then p1 else y0) (if dle ((K.set p1.toNatClampNeg f2).getD y0.toNatClampNeg 0) ((K.set p1.toNatClampNeg f2).getD p1.toNatClampNeg 0) then (P.set p1.toNatClampNeg (2 : Int32)) else ((P.set y0.toNatClampNeg (2 : Int32)).set p1.toNatClampNeg (0 : Int32))) (K.set p1.toNatClampNeg f2)) ∧ (NNk (K.set p1.toNatClampNeg f2)) ∧ (∀ z : Int32, (0 ≤ z.toInt ∧ z.toInt < 4) → ¬ p1.toInt = z.toInt → pv P z = -1 → pv (if dle ((K.set p1.toNatClampNeg f2).getD y0.toNatClampNeg 0) ((K.set p1.toNatClampNeg f2).getD p1.toNatClampNeg 0) then (P.set p1.toNatClampNeg (2 : Int32)) else ((P.set y0.toNatClampNeg (2 : Int32)).set p1.toNatClampNeg (0 : Int32))) z = -1)
set_option maxRecDepth 65536 in
set_option maxHeartbeats 40000000 in
theorem rm4n2 (l : Launch) (Z : State) (a0 : Array Value) (hw : ∀ d ∈ tables_1, d.before a0 Z = true) (ws : List Jvm.Cond) (o0 : Addr) (p1 : Int32) (f2 : UInt64) (heap_o0 : Addr) (position_o0 : Addr) (key_o0 : Addr) (y0 : Int32) (y1 : Int32) (y2 : Int32) (y3 : Int32) (P : List Int32) (K : List UInt64) (h0 : Heap) (n0 : Nat) (Z0 : n0 ≤ h0.size) (E_o0 : Exa Z h0 o0 "com/example/cross_town/crosstown/solve/NodeHeap") (F_o0_heap : Fld Z h0 o0 "com/example/cross_town/crosstown/solve/NodeHeap" "heap" "[I" (.ref heap_o0)) (F_o0_position : Fld Z h0 o0 "com/example/cross_town/crosstown/solve/NodeHeap" "position" "[I" (.ref position_o0)) (F_o0_key : Fld Z h0 o0 "com/example/cross_town/crosstown/solve/NodeHeap" "key" "[D" (.ref key_o0)) (F_o0_size : Fld Z h0 o0 "com/example/cross_town/crosstown/solve/NodeHeap" "size" "I" (.int (2 : Int32))) (V_heap_o0 : Ary tr Z h0 heap_o0 .int [(.int y0), (.int y1), (.int y2), (.int y3)]) (V_position_o0 : Ary tr Z h0 position_o0 .int (P.map Value.int)) (hl_P : (P.length = 4)) (V_key_o0 : Ary tr Z h0 key_o0 .double (K.map Value.double)) (hl_K : (K.length = 4)) (nnk : (NNk K)) (nnf : (FP.Core.val64 f2 ≠ .nan)) (rg_p1 : (0 ≤ p1.toInt ∧ p1.toInt < 4)) (pv_p1 : (pv P p1 = -1)) (hp : (Hp2 y0 y1 P K)) (g_o0 : n0 ≤ o0) (ne_heap_o0_o0 : heap_o0 ≠ o0) (ne_position_o0_o0 : position_o0 ≠ o0) (ne_key_o0_o0 : key_o0 ≠ o0) (g_key_o0 : n0 ≤ key_o0) (ne_heap_o0_key_o0 : heap_o0 ≠ key_o0) (ne_position_o0_key_o0 : position_o0 ≠ key_o0) (g_heap_o0 : n0 ≤ heap_o0) (ne_position_o0_heap_o0 : position_o0 ≠ heap_o0) (g_position_o0 : n0 ≤ position_o0) :
    MetFree l (⟨"com/example/cross_town/crosstown/solve/NodeHeap", "insertOrLower", "(ID)V"⟩ : MethodName) (head1 (Jvm.Cond.code (⟨"com/example/cross_town/crosstown/solve/NodeHeap", "insertOrLower", "(ID)V"⟩ : MethodName) prog_33_method_3_code 5 none :: ws) ({ frames := 2, cells := 0, slots := 0, locals := 30 } : Room)) (fun a U => a = #[(.ref o0), (.int p1), (.double f2)] ∧ Z.Warmed39 U.vm ∧ U.heap = h0) (fun _ _ _ _ _ => True) (fun _ U o U' => ∃ v L, o = .returned v ∧ Q4n2 Z o0 p1 f2 heap_o0 position_o0 key_o0 y0 y1 y2 y3 P K h0 n0 v U'.heap L ∧ FrameEnd U o U' L ({ frames := 2, cells := 0, slots := 0, locals := 30 } : Room).cells ({ frames := 2, cells := 0, slots := 0, locals := 30 } : Room).slots) := by
  refine MetFree.of_bodySF (plainFor_of_name pn_com_example_cross_town_crosstown_solve_NodeHeap) hisR ?_
  intro p e s m args below meth c s₁ Bd hml0 hP hK
  obtain ⟨rfl, hZ, hh⟩ := hP
  have hx := Bd.exec
  have hby := Bd.bytes
  have hml : c.maxLocals = 5 := hml0
  have hown : s.vm.findClass "com/example/cross_town/crosstown/solve/NodeHeap" = some m.cls := findClass_of_methodNamed Bd.named
  have hnm := (name_of_methodNamed Bd.named Bd.method).1
  have X0 : Stand p l e ({ frames := 2, cells := 0, slots := 0, locals := 30 } : Room) s m #[(.ref o0), (.int p1), (.double f2)] below meth c s₁ [] 0 0 := Stand.of_body Bd
  have eH0 : s₁.heap = h0 := by rw [← hh, Bd.state]; rfl
  have N0 := Fr.nil n0
  have K0 := Keep.refl h0 [o0, key_o0, heap_o0, position_o0]
  show Gt p.tables e below (fun o U' => ∃ v L, o = .returned v ∧ Q4n2 Z o0 p1 f2 heap_o0 position_o0 key_o0 y0 y1 y2 y3 P K h0 n0 v U'.heap L ∧ FrameEnd s o U' L ({ frames := 2, cells := 0, slots := 0, locals := 30 } : Room).cells ({ frames := 2, cells := 0, slots := 0, locals := 30 } : Room).slots) _
  refine own_cast (ef4n2 m o0 p1 f2) ?_
  obtain ⟨rg_y0, rg_y1, pv_y0, pv_y1, ord1⟩ := hp
  have d_y0_y1 : ¬ y0.toInt = y1.toInt := own_pne pv_y0 pv_y1 (by decide)
  have d_y0_p1 : ¬ y0.toInt = p1.toInt := own_pne pv_y0 pv_p1 (by decide)
  have d_y1_y0 : ¬ y1.toInt = y0.toInt := own_pne pv_y1 pv_y0 (by decide)
  have d_y1_p1 : ¬ y1.toInt = p1.toInt := own_pne pv_y1 pv_p1 (by decide)
  have d_p1_y0 : ¬ p1.toInt = y0.toInt := own_pne pv_p1 pv_y0 (by decide)
  have d_p1_y1 : ¬ p1.toInt = y1.toInt := own_pne pv_p1 pv_y1 (by decide)
  refine own_aloadN X0 hx hby rfl rfl d4_0 (pc' := 1) rfl ?_
  refine own_getF X0 hx hby hZ hown (host := "") (Or.inl (hw _ (List.mem_of_getElem? (i := 13) rfl))) Via.refl eH0 F_o0_position d4_1 (pc' := 4) rfl (fun T1 X1 eH1 => ?_)
  refine own_iloadN X1 hx hby rfl d4_4 (pc' := 5) rfl ?_
  refine own_iaload X1 hx hby hZ eH1 V_position_o0 (own_rg0 rg_p1) (v := (.int (P.getD p1.toNatClampNeg 0))) (own_lget (own_rgl rg_p1 hl_P)) d4_5 (pc' := 6) rfl ?_
  refine own_istore X1 hx hby (L' := #[.val (.ref o0), .val (.int p1), .val (.double f2), .second, .val (.int (P.getD p1.toNatClampNeg 0))]) rfl d4_6 (pc' := 8) rfl ?_
  refine own_iload X1 hx hby rfl d4_8 (pc' := 10) rfl ?_
  refine own_iconst X1 hx hby (v := (-1 : Int32)) (by decide) d4_10 (pc' := 11) rfl ?_
  have hk2 : (P.getD p1.toNatClampNeg 0) = (-1 : Int32) := own_pm pv_p1 (by decide)
  refine own_icF X1 hx hby d4_11 (own_ic_ne_p hk2) (pc' := 14) rfl ?_
  refine own_aloadN X1 hx hby rfl rfl d4_14 (pc' := 15) rfl ?_
  refine own_getF X1 hx hby hZ hown (host := "") (Or.inl (hw _ (List.mem_of_getElem? (i := 26) rfl))) Via.refl eH1 F_o0_size d4_15 (pc' := 18) rfl (fun T3 X3 eH3 => ?_)
  refine own_istore X3 hx hby (L' := #[.val (.ref o0), .val (.int p1), .val (.double f2), .second, .val (.int (2 : Int32))]) rfl d4_18 (pc' := 20) rfl ?_
  refine own_aloadN X3 hx hby rfl rfl d4_20 (pc' := 21) rfl ?_
  refine own_dup X3 hx hby rfl d4_21 (pc' := 22) rfl ?_
  refine own_getF X3 hx hby hZ hown (host := "") (Or.inl (hw _ (List.mem_of_getElem? (i := 26) rfl))) Via.refl eH3 F_o0_size d4_22 (pc' := 25) rfl (fun T4 X4 eH4 => ?_)
  refine own_iconst X4 hx hby (v := (1 : Int32)) (by decide) d4_25 (pc' := 26) rfl ?_
  refine own_iadd X4 hx hby (v := (3 : Int32)) (by decide) d4_26 (pc' := 27) rfl ?_
  refine own_putF X4 hx hby hZ hown (host := "") (Or.inl (hw _ (List.mem_of_getElem? (i := 26) rfl))) Via.refl eH4 F_o0_size E_o0 (Or.inl (hw _ (List.mem_of_getElem? (i := 27) rfl))) (hw _ (List.mem_of_getElem? (i := 2) rfl)) (ty := .int) (by decide) rfl rfl d4_27 (pc' := 30) rfl (fun T5 h5 X5 eH5 W5 => ?_)
  replace E_o0 := E_o0.wr W5
  replace F_o0_heap := F_o0_heap.other W5 (Or.inr (slot_ne (Or.inr (hw _ (List.mem_of_getElem? (i := 12) rfl))) (Or.inl (hw _ (List.mem_of_getElem? (i := 27) rfl))) (by decide) (t := (.array .int)) (t' := .int) (by decide) (by decide)))
  replace F_o0_position := F_o0_position.other W5 (Or.inr (slot_ne (Or.inr (hw _ (List.mem_of_getElem? (i := 14) rfl))) (Or.inl (hw _ (List.mem_of_getElem? (i := 27) rfl))) (by decide) (t := (.array .int)) (t' := .int) (by decide) (by decide)))
  replace F_o0_key := F_o0_key.other W5 (Or.inr (slot_ne (Or.inr (hw _ (List.mem_of_getElem? (i := 16) rfl))) (Or.inl (hw _ (List.mem_of_getElem? (i := 27) rfl))) (by decide) (t := (.array .double)) (t' := .int) (by decide) (by decide)))
  replace F_o0_size := F_o0_size.same W5
  replace V_heap_o0 := V_heap_o0.other W5 ne_heap_o0_o0
  replace V_position_o0 := V_position_o0.other W5 ne_position_o0_o0
  replace V_key_o0 := V_key_o0.other W5 ne_key_o0_o0
  have N5 := Fr.snoc X5 N0 g_o0
  replace K0 := K0.wr W5 (Or.inl (by simp))
  replace Z0 := Nat.le_trans Z0 (Nat.le_of_eq W5.size.symm)
  refine own_aloadN X5 hx hby rfl rfl d4_30 (pc' := 31) rfl ?_
  refine own_getF X5 hx hby hZ hown (host := "") (Or.inl (hw _ (List.mem_of_getElem? (i := 15) rfl))) Via.refl eH5 F_o0_key d4_31 (pc' := 34) rfl (fun T6 X6 eH6 => ?_)
  refine own_iloadN X6 hx hby rfl d4_34 (pc' := 35) rfl ?_
  refine own_dloadN X6 hx hby rfl d4_35 (pc' := 36) rfl ?_
  refine own_dastore X6 hx hby hZ eH6 V_key_o0 (own_rg0 rg_p1) (n := p1.toNatClampNeg) rfl (by rw [List.length_map]; exact own_rgl rg_p1 hl_K) d4_36 (pc' := 37) rfl (fun T7 h7 X7 eH7 W7 => ?_)
  replace E_o0 := E_o0.wr W7
  replace F_o0_heap := F_o0_heap.other W7 (Or.inl (Ne.symm ne_key_o0_o0))
  replace F_o0_position := F_o0_position.other W7 (Or.inl (Ne.symm ne_key_o0_o0))
  replace F_o0_key := F_o0_key.other W7 (Or.inl (Ne.symm ne_key_o0_o0))
  replace F_o0_size := F_o0_size.other W7 (Or.inl (Ne.symm ne_key_o0_o0))
  replace V_heap_o0 := V_heap_o0.other W7 ne_heap_o0_key_o0
  replace V_position_o0 := V_position_o0.other W7 ne_position_o0_key_o0
  have N7 := Fr.snoc X7 N5 g_key_o0
  replace K0 := K0.wr W7 (Or.inl (by simp))
  replace Z0 := Nat.le_trans Z0 (Nat.le_of_eq W7.size.symm)
  have hl8 : (K.set p1.toNatClampNeg f2).length = 4 := by rw [List.length_set]; exact hl_K
  replace V_key_o0 : Ary tr Z h7 key_o0 .double ((K.set p1.toNatClampNeg f2).map Value.double) := by rw [List.map_set]; exact V_key_o0.set W7
  refine own_aloadN X7 hx hby rfl rfl d4_37 (pc' := 38) rfl ?_
  refine own_iload X7 hx hby rfl d4_38 (pc' := 40) rfl ?_
  refine own_iloadN X7 hx hby rfl d4_40 (pc' := 41) rfl ?_
  refine own_private X7 hx hby hZ (y := (⟨"com/example/cross_town/crosstown/solve/NodeHeap", "siftUp", "(II)V"⟩ : MethodName)) (rest := []) hown (hw _ (List.mem_of_getElem? (i := 28) rfl)) (hw _ (List.mem_of_getElem? (i := 29) rfl)) (hw _ (List.mem_of_getElem? (i := 2) rfl)) (hw _ (List.mem_of_getElem? (i := 30) rfl)) (hw _ (List.mem_of_getElem? (i := 31) rfl)) (hw _ (List.mem_of_getElem? (i := 3) rfl)) (by decide) (rm5n2 l Z a0 hw [] o0 p1 heap_o0 position_o0 key_o0 y0 y1 y2 y3 P (K.set p1.toNatClampNeg f2) h7 n0 Z0 E_o0 F_o0_heap F_o0_position F_o0_key V_heap_o0 V_position_o0 (by first | assumption | rfl | (simp only [List.length_set]; first | assumption | rfl)) V_key_o0 (by first | assumption | rfl | (simp only [List.length_set]; first | assumption | rfl)) rg_p1 (own_nnk nnk nnf (own_rgl rg_p1 hl_K)) pv_p1 rg_y0 pv_y0 rg_y1 pv_y1 (by rw [(show kv (K.set p1.toNatClampNeg f2) y0 = kv K y0 from by rw [own_kvs hl_K rg_p1 rg_y0, if_neg d_p1_y0]), (show kv (K.set p1.toNatClampNeg f2) y1 = kv K y1 from by rw [own_kvs hl_K rg_p1 rg_y1, if_neg d_p1_y1])]; omega) g_heap_o0 (Ne.symm ne_heap_o0_o0) ne_position_o0_heap_o0 g_position_o0 (Ne.symm ne_position_o0_o0) (Ne.symm ne_position_o0_key_o0) (Ne.symm ne_heap_o0_key_o0)) eH7 (by rw [hml]; rfl) (a := o0) E_o0 (argsL := [(.int (2 : Int32)), (.int p1)]) rfl (lenOf pd_1 rfl) rfl d4_41 (pc' := 44) rfl (by decide) (W := 0) (Nat.le_of_eq rfl) (by decide) (by decide) (by decide) (fun T9 h9 Lc9 v9r X9 eH9 hQ9 => ?_)
  obtain ⟨rfl, Nq9, Kq9, gq9_0, gq9_1, gq9_2, gq9_3⟩ := hQ9
  have N9 := Fr.app N7 Nq9
  replace E_o0 := E_o0.keep Kq9
  replace F_o0_heap := F_o0_heap.keep Kq9 (ninS (Ne.symm ne_position_o0_o0) (ninS (Ne.symm ne_heap_o0_o0) nin0))
  replace F_o0_position := F_o0_position.keep Kq9 (ninS (Ne.symm ne_position_o0_o0) (ninS (Ne.symm ne_heap_o0_o0) nin0))
  replace F_o0_key := F_o0_key.keep Kq9 (ninS (Ne.symm ne_position_o0_o0) (ninS (Ne.symm ne_heap_o0_o0) nin0))
  replace F_o0_size := F_o0_size.keep Kq9 (ninS (Ne.symm ne_position_o0_o0) (ninS (Ne.symm ne_heap_o0_o0) nin0))
  replace V_key_o0 := V_key_o0.keep Kq9 (ninS (Ne.symm ne_position_o0_key_o0) (ninS (Ne.symm ne_heap_o0_key_o0) nin0))
  replace K0 := K0.trans Kq9 (allS (Or.inl (by simp)) (allS (Or.inl (by simp)) all0))
  have hl10 : (if dle ((K.set p1.toNatClampNeg f2).getD y0.toNatClampNeg 0) ((K.set p1.toNatClampNeg f2).getD p1.toNatClampNeg 0) then (P.set p1.toNatClampNeg (2 : Int32)) else ((P.set y0.toNatClampNeg (2 : Int32)).set p1.toNatClampNeg (0 : Int32))).length = 4 := by (repeat' split) <;> (simp only [List.length_set]; first | assumption | rfl)
  have V_position_o0 := gq9_0
  have V_heap_o0 := gq9_1
  have hp_9 : Hp3 (if dle ((K.set p1.toNatClampNeg f2).getD y0.toNatClampNeg 0) ((K.set p1.toNatClampNeg f2).getD p1.toNatClampNeg 0) then y0 else p1) y1 (if dle ((K.set p1.toNatClampNeg f2).getD y0.toNatClampNeg 0) ((K.set p1.toNatClampNeg f2).getD p1.toNatClampNeg 0) then p1 else y0) (if dle ((K.set p1.toNatClampNeg f2).getD y0.toNatClampNeg 0) ((K.set p1.toNatClampNeg f2).getD p1.toNatClampNeg 0) then (P.set p1.toNatClampNeg (2 : Int32)) else ((P.set y0.toNatClampNeg (2 : Int32)).set p1.toNatClampNeg (0 : Int32))) (K.set p1.toNatClampNeg f2) := gq9_2
  have ab_9 : ∀ z : Int32, (0 ≤ z.toInt ∧ z.toInt < 4) → ¬ p1.toInt = z.toInt → pv P z = -1 → pv (if dle ((K.set p1.toNatClampNeg f2).getD y0.toNatClampNeg 0) ((K.set p1.toNatClampNeg f2).getD p1.toNatClampNeg 0) then (P.set p1.toNatClampNeg (2 : Int32)) else ((P.set y0.toNatClampNeg (2 : Int32)).set p1.toNatClampNeg (0 : Int32))) z = -1 := gq9_3
  replace Z0 := Nat.le_trans Z0 Kq9.1
  exact own_retV X9 hx hby Bd.notSynchronized Bd.returns d4_44 (by decide) (by decide) eH9 ⟨rfl, N9, K0, E_o0, F_o0_heap, F_o0_position, F_o0_key, F_o0_size, V_key_o0, V_heap_o0, V_position_o0, hp_9, (own_nnk nnk nnf (own_rgl rg_p1 hl_K)), ab_9⟩
theorem ef4n3 (m : MethodId) (x0 : Addr) (x1 : Int32) (x2 : UInt64) : entryFrame m #[(.ref x0), (.int x1), (.double x2)] 5 = mkF m 0 #[.val (.ref x0), .val (.int x1), .val (.double x2), .second, .unset] [] := by first | (simp [entryFrame, mkF, argsToLocals, Value.category]; done) | rfl
def Q4n3 (Z : State) (o0 : Addr) (p1 : Int32) (f2 : UInt64) (heap_o0 : Addr) (position_o0 : Addr) (key_o0 : Addr) (y0 : Int32) (y1 : Int32) (y2 : Int32) (y3 : Int32) (P : List Int32) (K : List UInt64) (h0 : Heap) (n0 : Nat) (v : Option Value) (h : Heap) (L : List Loc) : Prop := v = none ∧ Fr n0 L ∧ Keep h0 h [o0, key_o0, heap_o0, position_o0] ∧ Exa Z h o0 "com/example/cross_town/crosstown/solve/NodeHeap" ∧ Fld Z h o0 "com/example/cross_town/crosstown/solve/NodeHeap" "heap" "[I" (.ref heap_o0) ∧ Fld Z h o0 "com/example/cross_town/crosstown/solve/NodeHeap" "position" "[I" (.ref position_o0) ∧ Fld Z h o0 "com/example/cross_town/crosstown/solve/NodeHeap" "key" "[D" (.ref key_o0) ∧ Fld Z h o0 "com/example/cross_town/crosstown/solve/NodeHeap" "size" "I" (.int (4 : Int32)) ∧ Ary tr Z h key_o0 .double ((K.set p1.toNatClampNeg f2).map Value.double) ∧ Ary tr Z h heap_o0 .int [(.int (if dle ((K.set p1.toNatClampNeg f2).getD y1.toNatClampNeg 0) ((K.set p1.toNatClampNeg f2).getD p1.toNatClampNeg 0) then y0 else (if dle ((K.set p1.toNatClampNeg f2).getD y0.toNatClampNeg 0) ((K.set p1.toNatClampNeg f2).getD p1.toNatClampNeg 0) then y0 else p1))), (.int (if dle ((K.set p1.toNatClampNeg f2).getD y1.toNatClampNeg 0) ((K.set p1.toNatClampNeg f2).getD p1.toNatClampNeg 0) then y1 else (if dle ((K.set p1.toNatClampNeg f2).getD y0.toNatClampNeg 0) ((K.set p1.toNatClampNeg f2).getD p1.toNatClampNeg 0) then p1 else y0))), (.int y2), (.int (if dle ((K.set p1.toNatClampNeg f2).getD y1.toNatClampNeg 0) ((K.set p1.toNatClampNeg f2).getD p1.toNatClampNeg 0) then p1 else (if dle ((K.set p1.toNatClampNeg f2).getD y0.toNatClampNeg 0) ((K.set p1.toNatClampNeg f2).getD p1.toNatClampNeg 0) then y1 else y1)))] ∧ Ary tr Z h position_o0 .int ((if dle ((K.set p1.toNatClampNeg f2).getD y1.toNatClampNeg 0) ((K.set p1.toNatClampNeg f2).getD p1.toNatClampNeg 0) then (P.set p1.toNatClampNeg (3 : Int32)) else (if dle ((K.set p1.toNatClampNeg f2).getD y0.toNatClampNeg 0) ((K.set p1.toNatClampNeg f2).getD p1.toNatClampNeg 0) then ((P.set y1.toNatClampNeg (3 : Int32)).set p1.toNatClampNeg (1 : Int32)) else (((P.set y1.toNatClampNeg (3 : Int32)).set y0.toNatClampNeg (1 : Int32)).set p1.toNatClampNeg (0 : Int32)))).map Value.int) ∧ (Hp4 (if dle ((K.set p1.toNatClampNeg f2).getD y1.toNatClampNeg 0) ((K.set p1.toNatClampNeg f2).getD p1.toNatClampNeg 0) then y0 else (if dle ((K.set p1.toNatClampNeg f2).getD y0.toNatClampNeg 0) ((K.set p1.toNatClampNeg f2).getD p1.toNatClampNeg 0) then y0 else p1)) (if dle ((K.set p1.toNatClampNeg f2).getD y1.toNatClampNeg 0) ((K.set p1.toNatClampNeg f2).getD p1.toNatClampNeg 0) then y1 else (if dle ((K.set p1.toNatClampNeg f2).getD y0.toNatClampNeg 0) ((K.set p1.toNatClampNeg f2).getD p1.toNatClampNeg 0) then p1 else y0)) y2 (if dle ((K.set p1.toNatClampNeg f2).getD y1.toNatClampNeg 0) ((K.set p1.toNatClampNeg f2).getD p1.toNatClampNeg 0) then p1 else (if dle ((K.set p1.toNatClampNeg f2).getD y0.toNatClampNeg 0) ((K.set p1.toNatClampNeg f2).getD p1.toNatClampNeg 0) then y1 else y1)) (if dle ((K.set p1.toNatClampNeg f2).getD y1.toNatClampNeg 0) ((K.set p1.toNatClampNeg f2).getD p1.toNatClampNeg 0) then (P.set p1.toNatClampNeg (3 : Int32)) else (if dle ((K.set p1.toNatClampNeg f2).getD y0.toNatClampNeg 0) ((K.set p1.toNatClampNeg f2).getD p1.toNatClampNeg 0) then ((P.set y1.toNatClampNeg (3 : Int32)).set p1.toNatClampNeg (1 : Int32)) else (((P.set y1.toNatClampNeg (3 : Int32)).set y0.toNatClampNeg (1 : Int32)).set p1.toNatClampNeg (0 : Int32)))) (K.set p1.toNatClampNeg f2)) ∧ (NNk (K.set p1.toNatClampNeg f2)) ∧ (∀ z : Int32, (0 ≤ z.toInt ∧ z.toInt < 4) → ¬ p1.toInt = z.toInt → pv P z = -1 → pv (if dle ((K.set p1.toNatClampNeg f2).getD y1.toNatClampNeg 0) ((K.set p1.toNatClampNeg f2).getD p1.toNatClampNeg 0) then (P.set p1.toNatClampNeg (3 : Int32)) else (if dle ((K.set p1.toNatClampNeg f2).getD y0.toNatClampNeg 0) ((K.set p1.toNatClampNeg f2).getD p1.toNatClampNeg 0) then ((P.set y1.toNatClampNeg (3 : Int32)).set p1.toNatClampNeg (1 : Int32)) else (((P.set y1.toNatClampNeg (3 : Int32)).set y0.toNatClampNeg (1 : Int32)).set p1.toNatClampNeg (0 : Int32)))) z = -1)
set_option maxRecDepth 65536 in
set_option maxHeartbeats 40000000 in
theorem rm4n3 (l : Launch) (Z : State) (a0 : Array Value) (hw : ∀ d ∈ tables_1, d.before a0 Z = true) (ws : List Jvm.Cond) (o0 : Addr) (p1 : Int32) (f2 : UInt64) (heap_o0 : Addr) (position_o0 : Addr) (key_o0 : Addr) (y0 : Int32) (y1 : Int32) (y2 : Int32) (y3 : Int32) (P : List Int32) (K : List UInt64) (h0 : Heap) (n0 : Nat) (Z0 : n0 ≤ h0.size) (E_o0 : Exa Z h0 o0 "com/example/cross_town/crosstown/solve/NodeHeap") (F_o0_heap : Fld Z h0 o0 "com/example/cross_town/crosstown/solve/NodeHeap" "heap" "[I" (.ref heap_o0)) (F_o0_position : Fld Z h0 o0 "com/example/cross_town/crosstown/solve/NodeHeap" "position" "[I" (.ref position_o0)) (F_o0_key : Fld Z h0 o0 "com/example/cross_town/crosstown/solve/NodeHeap" "key" "[D" (.ref key_o0)) (F_o0_size : Fld Z h0 o0 "com/example/cross_town/crosstown/solve/NodeHeap" "size" "I" (.int (3 : Int32))) (V_heap_o0 : Ary tr Z h0 heap_o0 .int [(.int y0), (.int y1), (.int y2), (.int y3)]) (V_position_o0 : Ary tr Z h0 position_o0 .int (P.map Value.int)) (hl_P : (P.length = 4)) (V_key_o0 : Ary tr Z h0 key_o0 .double (K.map Value.double)) (hl_K : (K.length = 4)) (nnk : (NNk K)) (nnf : (FP.Core.val64 f2 ≠ .nan)) (rg_p1 : (0 ≤ p1.toInt ∧ p1.toInt < 4)) (pv_p1 : (pv P p1 = -1)) (hp : (Hp3 y0 y1 y2 P K)) (g_o0 : n0 ≤ o0) (ne_heap_o0_o0 : heap_o0 ≠ o0) (ne_position_o0_o0 : position_o0 ≠ o0) (ne_key_o0_o0 : key_o0 ≠ o0) (g_key_o0 : n0 ≤ key_o0) (ne_heap_o0_key_o0 : heap_o0 ≠ key_o0) (ne_position_o0_key_o0 : position_o0 ≠ key_o0) (g_heap_o0 : n0 ≤ heap_o0) (ne_position_o0_heap_o0 : position_o0 ≠ heap_o0) (g_position_o0 : n0 ≤ position_o0) :
    MetFree l (⟨"com/example/cross_town/crosstown/solve/NodeHeap", "insertOrLower", "(ID)V"⟩ : MethodName) (head1 (Jvm.Cond.code (⟨"com/example/cross_town/crosstown/solve/NodeHeap", "insertOrLower", "(ID)V"⟩ : MethodName) prog_33_method_3_code 5 none :: ws) ({ frames := 2, cells := 0, slots := 0, locals := 30 } : Room)) (fun a U => a = #[(.ref o0), (.int p1), (.double f2)] ∧ Z.Warmed39 U.vm ∧ U.heap = h0) (fun _ _ _ _ _ => True) (fun _ U o U' => ∃ v L, o = .returned v ∧ Q4n3 Z o0 p1 f2 heap_o0 position_o0 key_o0 y0 y1 y2 y3 P K h0 n0 v U'.heap L ∧ FrameEnd U o U' L ({ frames := 2, cells := 0, slots := 0, locals := 30 } : Room).cells ({ frames := 2, cells := 0, slots := 0, locals := 30 } : Room).slots) := by
  refine MetFree.of_bodySF (plainFor_of_name pn_com_example_cross_town_crosstown_solve_NodeHeap) hisR ?_
  intro p e s m args below meth c s₁ Bd hml0 hP hK
  obtain ⟨rfl, hZ, hh⟩ := hP
  have hx := Bd.exec
  have hby := Bd.bytes
  have hml : c.maxLocals = 5 := hml0
  have hown : s.vm.findClass "com/example/cross_town/crosstown/solve/NodeHeap" = some m.cls := findClass_of_methodNamed Bd.named
  have hnm := (name_of_methodNamed Bd.named Bd.method).1
  have X0 : Stand p l e ({ frames := 2, cells := 0, slots := 0, locals := 30 } : Room) s m #[(.ref o0), (.int p1), (.double f2)] below meth c s₁ [] 0 0 := Stand.of_body Bd
  have eH0 : s₁.heap = h0 := by rw [← hh, Bd.state]; rfl
  have N0 := Fr.nil n0
  have K0 := Keep.refl h0 [o0, key_o0, heap_o0, position_o0]
  show Gt p.tables e below (fun o U' => ∃ v L, o = .returned v ∧ Q4n3 Z o0 p1 f2 heap_o0 position_o0 key_o0 y0 y1 y2 y3 P K h0 n0 v U'.heap L ∧ FrameEnd s o U' L ({ frames := 2, cells := 0, slots := 0, locals := 30 } : Room).cells ({ frames := 2, cells := 0, slots := 0, locals := 30 } : Room).slots) _
  refine own_cast (ef4n3 m o0 p1 f2) ?_
  obtain ⟨rg_y0, rg_y1, rg_y2, pv_y0, pv_y1, pv_y2, ord1, ord2⟩ := hp
  have d_y0_y1 : ¬ y0.toInt = y1.toInt := own_pne pv_y0 pv_y1 (by decide)
  have d_y0_y2 : ¬ y0.toInt = y2.toInt := own_pne pv_y0 pv_y2 (by decide)
  have d_y0_p1 : ¬ y0.toInt = p1.toInt := own_pne pv_y0 pv_p1 (by decide)
  have d_y1_y0 : ¬ y1.toInt = y0.toInt := own_pne pv_y1 pv_y0 (by decide)
  have d_y1_y2 : ¬ y1.toInt = y2.toInt := own_pne pv_y1 pv_y2 (by decide)
  have d_y1_p1 : ¬ y1.toInt = p1.toInt := own_pne pv_y1 pv_p1 (by decide)
  have d_y2_y0 : ¬ y2.toInt = y0.toInt := own_pne pv_y2 pv_y0 (by decide)
  have d_y2_y1 : ¬ y2.toInt = y1.toInt := own_pne pv_y2 pv_y1 (by decide)
  have d_y2_p1 : ¬ y2.toInt = p1.toInt := own_pne pv_y2 pv_p1 (by decide)
  have d_p1_y0 : ¬ p1.toInt = y0.toInt := own_pne pv_p1 pv_y0 (by decide)
  have d_p1_y1 : ¬ p1.toInt = y1.toInt := own_pne pv_p1 pv_y1 (by decide)
  have d_p1_y2 : ¬ p1.toInt = y2.toInt := own_pne pv_p1 pv_y2 (by decide)
  refine own_aloadN X0 hx hby rfl rfl d4_0 (pc' := 1) rfl ?_
  refine own_getF X0 hx hby hZ hown (host := "") (Or.inl (hw _ (List.mem_of_getElem? (i := 13) rfl))) Via.refl eH0 F_o0_position d4_1 (pc' := 4) rfl (fun T1 X1 eH1 => ?_)
  refine own_iloadN X1 hx hby rfl d4_4 (pc' := 5) rfl ?_
  refine own_iaload X1 hx hby hZ eH1 V_position_o0 (own_rg0 rg_p1) (v := (.int (P.getD p1.toNatClampNeg 0))) (own_lget (own_rgl rg_p1 hl_P)) d4_5 (pc' := 6) rfl ?_
  refine own_istore X1 hx hby (L' := #[.val (.ref o0), .val (.int p1), .val (.double f2), .second, .val (.int (P.getD p1.toNatClampNeg 0))]) rfl d4_6 (pc' := 8) rfl ?_
  refine own_iload X1 hx hby rfl d4_8 (pc' := 10) rfl ?_
  refine own_iconst X1 hx hby (v := (-1 : Int32)) (by decide) d4_10 (pc' := 11) rfl ?_
  have hk2 : (P.getD p1.toNatClampNeg 0) = (-1 : Int32) := own_pm pv_p1 (by decide)
  refine own_icF X1 hx hby d4_11 (own_ic_ne_p hk2) (pc' := 14) rfl ?_
  refine own_aloadN X1 hx hby rfl rfl d4_14 (pc' := 15) rfl ?_
  refine own_getF X1 hx hby hZ hown (host := "") (Or.inl (hw _ (List.mem_of_getElem? (i := 26) rfl))) Via.refl eH1 F_o0_size d4_15 (pc' := 18) rfl (fun T3 X3 eH3 => ?_)
  refine own_istore X3 hx hby (L' := #[.val (.ref o0), .val (.int p1), .val (.double f2), .second, .val (.int (3 : Int32))]) rfl d4_18 (pc' := 20) rfl ?_
  refine own_aloadN X3 hx hby rfl rfl d4_20 (pc' := 21) rfl ?_
  refine own_dup X3 hx hby rfl d4_21 (pc' := 22) rfl ?_
  refine own_getF X3 hx hby hZ hown (host := "") (Or.inl (hw _ (List.mem_of_getElem? (i := 26) rfl))) Via.refl eH3 F_o0_size d4_22 (pc' := 25) rfl (fun T4 X4 eH4 => ?_)
  refine own_iconst X4 hx hby (v := (1 : Int32)) (by decide) d4_25 (pc' := 26) rfl ?_
  refine own_iadd X4 hx hby (v := (4 : Int32)) (by decide) d4_26 (pc' := 27) rfl ?_
  refine own_putF X4 hx hby hZ hown (host := "") (Or.inl (hw _ (List.mem_of_getElem? (i := 26) rfl))) Via.refl eH4 F_o0_size E_o0 (Or.inl (hw _ (List.mem_of_getElem? (i := 27) rfl))) (hw _ (List.mem_of_getElem? (i := 2) rfl)) (ty := .int) (by decide) rfl rfl d4_27 (pc' := 30) rfl (fun T5 h5 X5 eH5 W5 => ?_)
  replace E_o0 := E_o0.wr W5
  replace F_o0_heap := F_o0_heap.other W5 (Or.inr (slot_ne (Or.inr (hw _ (List.mem_of_getElem? (i := 12) rfl))) (Or.inl (hw _ (List.mem_of_getElem? (i := 27) rfl))) (by decide) (t := (.array .int)) (t' := .int) (by decide) (by decide)))
  replace F_o0_position := F_o0_position.other W5 (Or.inr (slot_ne (Or.inr (hw _ (List.mem_of_getElem? (i := 14) rfl))) (Or.inl (hw _ (List.mem_of_getElem? (i := 27) rfl))) (by decide) (t := (.array .int)) (t' := .int) (by decide) (by decide)))
  replace F_o0_key := F_o0_key.other W5 (Or.inr (slot_ne (Or.inr (hw _ (List.mem_of_getElem? (i := 16) rfl))) (Or.inl (hw _ (List.mem_of_getElem? (i := 27) rfl))) (by decide) (t := (.array .double)) (t' := .int) (by decide) (by decide)))
  replace F_o0_size := F_o0_size.same W5
  replace V_heap_o0 := V_heap_o0.other W5 ne_heap_o0_o0
  replace V_position_o0 := V_position_o0.other W5 ne_position_o0_o0
  replace V_key_o0 := V_key_o0.other W5 ne_key_o0_o0
  have N5 := Fr.snoc X5 N0 g_o0
  replace K0 := K0.wr W5 (Or.inl (by simp))
  replace Z0 := Nat.le_trans Z0 (Nat.le_of_eq W5.size.symm)
  refine own_aloadN X5 hx hby rfl rfl d4_30 (pc' := 31) rfl ?_
  refine own_getF X5 hx hby hZ hown (host := "") (Or.inl (hw _ (List.mem_of_getElem? (i := 15) rfl))) Via.refl eH5 F_o0_key d4_31 (pc' := 34) rfl (fun T6 X6 eH6 => ?_)
  refine own_iloadN X6 hx hby rfl d4_34 (pc' := 35) rfl ?_
  refine own_dloadN X6 hx hby rfl d4_35 (pc' := 36) rfl ?_
  refine own_dastore X6 hx hby hZ eH6 V_key_o0 (own_rg0 rg_p1) (n := p1.toNatClampNeg) rfl (by rw [List.length_map]; exact own_rgl rg_p1 hl_K) d4_36 (pc' := 37) rfl (fun T7 h7 X7 eH7 W7 => ?_)
  replace E_o0 := E_o0.wr W7
  replace F_o0_heap := F_o0_heap.other W7 (Or.inl (Ne.symm ne_key_o0_o0))
  replace F_o0_position := F_o0_position.other W7 (Or.inl (Ne.symm ne_key_o0_o0))
  replace F_o0_key := F_o0_key.other W7 (Or.inl (Ne.symm ne_key_o0_o0))
  replace F_o0_size := F_o0_size.other W7 (Or.inl (Ne.symm ne_key_o0_o0))
  replace V_heap_o0 := V_heap_o0.other W7 ne_heap_o0_key_o0
  replace V_position_o0 := V_position_o0.other W7 ne_position_o0_key_o0
  have N7 := Fr.snoc X7 N5 g_key_o0
  replace K0 := K0.wr W7 (Or.inl (by simp))
  replace Z0 := Nat.le_trans Z0 (Nat.le_of_eq W7.size.symm)
  have hl8 : (K.set p1.toNatClampNeg f2).length = 4 := by rw [List.length_set]; exact hl_K
  replace V_key_o0 : Ary tr Z h7 key_o0 .double ((K.set p1.toNatClampNeg f2).map Value.double) := by rw [List.map_set]; exact V_key_o0.set W7
  refine own_aloadN X7 hx hby rfl rfl d4_37 (pc' := 38) rfl ?_
  refine own_iload X7 hx hby rfl d4_38 (pc' := 40) rfl ?_
  refine own_iloadN X7 hx hby rfl d4_40 (pc' := 41) rfl ?_
  refine own_private X7 hx hby hZ (y := (⟨"com/example/cross_town/crosstown/solve/NodeHeap", "siftUp", "(II)V"⟩ : MethodName)) (rest := []) hown (hw _ (List.mem_of_getElem? (i := 28) rfl)) (hw _ (List.mem_of_getElem? (i := 29) rfl)) (hw _ (List.mem_of_getElem? (i := 2) rfl)) (hw _ (List.mem_of_getElem? (i := 30) rfl)) (hw _ (List.mem_of_getElem? (i := 31) rfl)) (hw _ (List.mem_of_getElem? (i := 3) rfl)) (by decide) (rm5n3 l Z a0 hw [] o0 p1 heap_o0 position_o0 key_o0 y0 y1 y2 y3 P (K.set p1.toNatClampNeg f2) h7 n0 Z0 E_o0 F_o0_heap F_o0_position F_o0_key V_heap_o0 V_position_o0 (by first | assumption | rfl | (simp only [List.length_set]; first | assumption | rfl)) V_key_o0 (by first | assumption | rfl | (simp only [List.length_set]; first | assumption | rfl)) rg_p1 (own_nnk nnk nnf (own_rgl rg_p1 hl_K)) pv_p1 rg_y0 pv_y0 rg_y1 pv_y1 rg_y2 pv_y2 (by rw [(show kv (K.set p1.toNatClampNeg f2) y0 = kv K y0 from by rw [own_kvs hl_K rg_p1 rg_y0, if_neg d_p1_y0]), (show kv (K.set p1.toNatClampNeg f2) y1 = kv K y1 from by rw [own_kvs hl_K rg_p1 rg_y1, if_neg d_p1_y1])]; omega) (by rw [(show kv (K.set p1.toNatClampNeg f2) y0 = kv K y0 from by rw [own_kvs hl_K rg_p1 rg_y0, if_neg d_p1_y0]), (show kv (K.set p1.toNatClampNeg f2) y2 = kv K y2 from by rw [own_kvs hl_K rg_p1 rg_y2, if_neg d_p1_y2])]; omega) g_heap_o0 (Ne.symm ne_heap_o0_o0) ne_position_o0_heap_o0 g_position_o0 (Ne.symm ne_position_o0_o0) (Ne.symm ne_position_o0_key_o0) (Ne.symm ne_heap_o0_key_o0)) eH7 (by rw [hml]; rfl) (a := o0) E_o0 (argsL := [(.int (3 : Int32)), (.int p1)]) rfl (lenOf pd_1 rfl) rfl d4_41 (pc' := 44) rfl (by decide) (W := 0) (Nat.le_of_eq rfl) (by decide) (by decide) (by decide) (fun T9 h9 Lc9 v9r X9 eH9 hQ9 => ?_)
  obtain ⟨rfl, Nq9, Kq9, gq9_0, gq9_1, gq9_2, gq9_3⟩ := hQ9
  have N9 := Fr.app N7 Nq9
  replace E_o0 := E_o0.keep Kq9
  replace F_o0_heap := F_o0_heap.keep Kq9 (ninS (Ne.symm ne_position_o0_o0) (ninS (Ne.symm ne_heap_o0_o0) nin0))
  replace F_o0_position := F_o0_position.keep Kq9 (ninS (Ne.symm ne_position_o0_o0) (ninS (Ne.symm ne_heap_o0_o0) nin0))
  replace F_o0_key := F_o0_key.keep Kq9 (ninS (Ne.symm ne_position_o0_o0) (ninS (Ne.symm ne_heap_o0_o0) nin0))
  replace F_o0_size := F_o0_size.keep Kq9 (ninS (Ne.symm ne_position_o0_o0) (ninS (Ne.symm ne_heap_o0_o0) nin0))
  replace V_key_o0 := V_key_o0.keep Kq9 (ninS (Ne.symm ne_position_o0_key_o0) (ninS (Ne.symm ne_heap_o0_key_o0) nin0))
  replace K0 := K0.trans Kq9 (allS (Or.inl (by simp)) (allS (Or.inl (by simp)) all0))
  have hl10 : (if dle ((K.set p1.toNatClampNeg f2).getD y1.toNatClampNeg 0) ((K.set p1.toNatClampNeg f2).getD p1.toNatClampNeg 0) then (P.set p1.toNatClampNeg (3 : Int32)) else (if dle ((K.set p1.toNatClampNeg f2).getD y0.toNatClampNeg 0) ((K.set p1.toNatClampNeg f2).getD p1.toNatClampNeg 0) then ((P.set y1.toNatClampNeg (3 : Int32)).set p1.toNatClampNeg (1 : Int32)) else (((P.set y1.toNatClampNeg (3 : Int32)).set y0.toNatClampNeg (1 : Int32)).set p1.toNatClampNeg (0 : Int32)))).length = 4 := by (repeat' split) <;> (simp only [List.length_set]; first | assumption | rfl)
  have V_position_o0 := gq9_0
  have V_heap_o0 := gq9_1
  have hp_9 : Hp4 (if dle ((K.set p1.toNatClampNeg f2).getD y1.toNatClampNeg 0) ((K.set p1.toNatClampNeg f2).getD p1.toNatClampNeg 0) then y0 else (if dle ((K.set p1.toNatClampNeg f2).getD y0.toNatClampNeg 0) ((K.set p1.toNatClampNeg f2).getD p1.toNatClampNeg 0) then y0 else p1)) (if dle ((K.set p1.toNatClampNeg f2).getD y1.toNatClampNeg 0) ((K.set p1.toNatClampNeg f2).getD p1.toNatClampNeg 0) then y1 else (if dle ((K.set p1.toNatClampNeg f2).getD y0.toNatClampNeg 0) ((K.set p1.toNatClampNeg f2).getD p1.toNatClampNeg 0) then p1 else y0)) y2 (if dle ((K.set p1.toNatClampNeg f2).getD y1.toNatClampNeg 0) ((K.set p1.toNatClampNeg f2).getD p1.toNatClampNeg 0) then p1 else (if dle ((K.set p1.toNatClampNeg f2).getD y0.toNatClampNeg 0) ((K.set p1.toNatClampNeg f2).getD p1.toNatClampNeg 0) then y1 else y1)) (if dle ((K.set p1.toNatClampNeg f2).getD y1.toNatClampNeg 0) ((K.set p1.toNatClampNeg f2).getD p1.toNatClampNeg 0) then (P.set p1.toNatClampNeg (3 : Int32)) else (if dle ((K.set p1.toNatClampNeg f2).getD y0.toNatClampNeg 0) ((K.set p1.toNatClampNeg f2).getD p1.toNatClampNeg 0) then ((P.set y1.toNatClampNeg (3 : Int32)).set p1.toNatClampNeg (1 : Int32)) else (((P.set y1.toNatClampNeg (3 : Int32)).set y0.toNatClampNeg (1 : Int32)).set p1.toNatClampNeg (0 : Int32)))) (K.set p1.toNatClampNeg f2) := gq9_2
  have ab_9 : ∀ z : Int32, (0 ≤ z.toInt ∧ z.toInt < 4) → ¬ p1.toInt = z.toInt → pv P z = -1 → pv (if dle ((K.set p1.toNatClampNeg f2).getD y1.toNatClampNeg 0) ((K.set p1.toNatClampNeg f2).getD p1.toNatClampNeg 0) then (P.set p1.toNatClampNeg (3 : Int32)) else (if dle ((K.set p1.toNatClampNeg f2).getD y0.toNatClampNeg 0) ((K.set p1.toNatClampNeg f2).getD p1.toNatClampNeg 0) then ((P.set y1.toNatClampNeg (3 : Int32)).set p1.toNatClampNeg (1 : Int32)) else (((P.set y1.toNatClampNeg (3 : Int32)).set y0.toNatClampNeg (1 : Int32)).set p1.toNatClampNeg (0 : Int32)))) z = -1 := gq9_3
  replace Z0 := Nat.le_trans Z0 Kq9.1
  exact own_retV X9 hx hby Bd.notSynchronized Bd.returns d4_44 (by decide) (by decide) eH9 ⟨rfl, N9, K0, E_o0, F_o0_heap, F_o0_position, F_o0_key, F_o0_size, V_key_o0, V_heap_o0, V_position_o0, hp_9, (own_nnk nnk nnf (own_rgl rg_p1 hl_K)), ab_9⟩
theorem ef4l40 (m : MethodId) (x0 : Addr) (x1 : Int32) (x2 : UInt64) : entryFrame m #[(.ref x0), (.int x1), (.double x2)] 5 = mkF m 0 #[.val (.ref x0), .val (.int x1), .val (.double x2), .second, .unset] [] := by first | (simp [entryFrame, mkF, argsToLocals, Value.category]; done) | rfl
def Q4l40 (Z : State) (o0 : Addr) (p1 : Int32) (f2 : UInt64) (heap_o0 : Addr) (position_o0 : Addr) (key_o0 : Addr) (y1 : Int32) (y2 : Int32) (y3 : Int32) (P : List Int32) (K : List UInt64) (h0 : Heap) (n0 : Nat) (v : Option Value) (h : Heap) (L : List Loc) : Prop := v = none ∧ Fr n0 L ∧ Keep h0 h [key_o0, heap_o0, position_o0] ∧ Ary tr Z h key_o0 .double ((K.set p1.toNatClampNeg f2).map Value.double) ∧ Ary tr Z h heap_o0 .int [(.int p1), (.int y1), (.int y2), (.int y3)] ∧ Ary tr Z h position_o0 .int ((P.set p1.toNatClampNeg (0 : Int32)).map Value.int) ∧ (Hp4 p1 y1 y2 y3 (P.set p1.toNatClampNeg (0 : Int32)) (K.set p1.toNatClampNeg f2)) ∧ (NNk (K.set p1.toNatClampNeg f2))
set_option maxRecDepth 65536 in
set_option maxHeartbeats 40000000 in
theorem rm4l40 (l : Launch) (Z : State) (a0 : Array Value) (hw : ∀ d ∈ tables_1, d.before a0 Z = true) (ws : List Jvm.Cond) (o0 : Addr) (p1 : Int32) (f2 : UInt64) (heap_o0 : Addr) (position_o0 : Addr) (key_o0 : Addr) (y1 : Int32) (y2 : Int32) (y3 : Int32) (P : List Int32) (K : List UInt64) (h0 : Heap) (n0 : Nat) (Z0 : n0 ≤ h0.size) (E_o0 : Exa Z h0 o0 "com/example/cross_town/crosstown/solve/NodeHeap") (F_o0_heap : Fld Z h0 o0 "com/example/cross_town/crosstown/solve/NodeHeap" "heap" "[I" (.ref heap_o0)) (F_o0_position : Fld Z h0 o0 "com/example/cross_town/crosstown/solve/NodeHeap" "position" "[I" (.ref position_o0)) (F_o0_key : Fld Z h0 o0 "com/example/cross_town/crosstown/solve/NodeHeap" "key" "[D" (.ref key_o0)) (F_o0_size : Fld Z h0 o0 "com/example/cross_town/crosstown/solve/NodeHeap" "size" "I" (.int (4 : Int32))) (V_heap_o0 : Ary tr Z h0 heap_o0 .int [(.int p1), (.int y1), (.int y2), (.int y3)]) (V_position_o0 : Ary tr Z h0 position_o0 .int (P.map Value.int)) (hl_P : (P.length = 4)) (V_key_o0 : Ary tr Z h0 key_o0 .double (K.map Value.double)) (hl_K : (K.length = 4)) (nnk : (NNk K)) (nnf : (FP.Core.val64 f2 ≠ .nan)) (hp : (Hp4 p1 y1 y2 y3 P K)) (hlow : (zv f2 ≤ kv K p1)) (g_key_o0 : n0 ≤ key_o0) (ne_o0_key_o0 : o0 ≠ key_o0) (ne_heap_o0_key_o0 : heap_o0 ≠ key_o0) (ne_position_o0_key_o0 : position_o0 ≠ key_o0) (g_heap_o0 : n0 ≤ heap_o0) (ne_o0_heap_o0 : o0 ≠ heap_o0) (ne_position_o0_heap_o0 : position_o0 ≠ heap_o0) (g_position_o0 : n0 ≤ position_o0) (ne_o0_position_o0 : o0 ≠ position_o0) :
    MetFree l (⟨"com/example/cross_town/crosstown/solve/NodeHeap", "insertOrLower", "(ID)V"⟩ : MethodName) (head1 (Jvm.Cond.code (⟨"com/example/cross_town/crosstown/solve/NodeHeap", "insertOrLower", "(ID)V"⟩ : MethodName) prog_33_method_3_code 5 none :: ws) ({ frames := 2, cells := 0, slots := 0, locals := 30 } : Room)) (fun a U => a = #[(.ref o0), (.int p1), (.double f2)] ∧ Z.Warmed39 U.vm ∧ U.heap = h0) (fun _ _ _ _ _ => True) (fun _ U o U' => ∃ v L, o = .returned v ∧ Q4l40 Z o0 p1 f2 heap_o0 position_o0 key_o0 y1 y2 y3 P K h0 n0 v U'.heap L ∧ FrameEnd U o U' L ({ frames := 2, cells := 0, slots := 0, locals := 30 } : Room).cells ({ frames := 2, cells := 0, slots := 0, locals := 30 } : Room).slots) := by
  refine MetFree.of_bodySF (plainFor_of_name pn_com_example_cross_town_crosstown_solve_NodeHeap) hisR ?_
  intro p e s m args below meth c s₁ Bd hml0 hP hK
  obtain ⟨rfl, hZ, hh⟩ := hP
  have hx := Bd.exec
  have hby := Bd.bytes
  have hml : c.maxLocals = 5 := hml0
  have hown : s.vm.findClass "com/example/cross_town/crosstown/solve/NodeHeap" = some m.cls := findClass_of_methodNamed Bd.named
  have hnm := (name_of_methodNamed Bd.named Bd.method).1
  have X0 : Stand p l e ({ frames := 2, cells := 0, slots := 0, locals := 30 } : Room) s m #[(.ref o0), (.int p1), (.double f2)] below meth c s₁ [] 0 0 := Stand.of_body Bd
  have eH0 : s₁.heap = h0 := by rw [← hh, Bd.state]; rfl
  have N0 := Fr.nil n0
  have K0 := Keep.refl h0 [key_o0, heap_o0, position_o0]
  show Gt p.tables e below (fun o U' => ∃ v L, o = .returned v ∧ Q4l40 Z o0 p1 f2 heap_o0 position_o0 key_o0 y1 y2 y3 P K h0 n0 v U'.heap L ∧ FrameEnd s o U' L ({ frames := 2, cells := 0, slots := 0, locals := 30 } : Room).cells ({ frames := 2, cells := 0, slots := 0, locals := 30 } : Room).slots) _
  refine own_cast (ef4l40 m o0 p1 f2) ?_
  obtain ⟨rg_p1, rg_y1, rg_y2, rg_y3, pv_p1, pv_y1, pv_y2, pv_y3, ord1, ord2, ord3⟩ := hp
  have d_p1_y1 : ¬ p1.toInt = y1.toInt := own_pne pv_p1 pv_y1 (by decide)
  have d_p1_y2 : ¬ p1.toInt = y2.toInt := own_pne pv_p1 pv_y2 (by decide)
  have d_p1_y3 : ¬ p1.toInt = y3.toInt := own_pne pv_p1 pv_y3 (by decide)
  have d_y1_p1 : ¬ y1.toInt = p1.toInt := own_pne pv_y1 pv_p1 (by decide)
  have d_y1_y2 : ¬ y1.toInt = y2.toInt := own_pne pv_y1 pv_y2 (by decide)
  have d_y1_y3 : ¬ y1.toInt = y3.toInt := own_pne pv_y1 pv_y3 (by decide)
  have d_y2_p1 : ¬ y2.toInt = p1.toInt := own_pne pv_y2 pv_p1 (by decide)
  have d_y2_y1 : ¬ y2.toInt = y1.toInt := own_pne pv_y2 pv_y1 (by decide)
  have d_y2_y3 : ¬ y2.toInt = y3.toInt := own_pne pv_y2 pv_y3 (by decide)
  have d_y3_p1 : ¬ y3.toInt = p1.toInt := own_pne pv_y3 pv_p1 (by decide)
  have d_y3_y1 : ¬ y3.toInt = y1.toInt := own_pne pv_y3 pv_y1 (by decide)
  have d_y3_y2 : ¬ y3.toInt = y2.toInt := own_pne pv_y3 pv_y2 (by decide)
  refine own_aloadN X0 hx hby rfl rfl d4_0 (pc' := 1) rfl ?_
  refine own_getF X0 hx hby hZ hown (host := "") (Or.inl (hw _ (List.mem_of_getElem? (i := 13) rfl))) Via.refl eH0 F_o0_position d4_1 (pc' := 4) rfl (fun T1 X1 eH1 => ?_)
  refine own_iloadN X1 hx hby rfl d4_4 (pc' := 5) rfl ?_
  refine own_iaload X1 hx hby hZ eH1 V_position_o0 (own_rg0 rg_p1) (v := (.int (P.getD p1.toNatClampNeg 0))) (own_lget (own_rgl rg_p1 hl_P)) d4_5 (pc' := 6) rfl ?_
  refine own_istore X1 hx hby (L' := #[.val (.ref o0), .val (.int p1), .val (.double f2), .second, .val (.int (P.getD p1.toNatClampNeg 0))]) rfl d4_6 (pc' := 8) rfl ?_
  rw [own_pm (i := (0 : Int32)) pv_p1 (by decide)]
  refine own_iload X1 hx hby rfl d4_8 (pc' := 10) rfl ?_
  refine own_iconst X1 hx hby (v := (-1 : Int32)) (by decide) d4_10 (pc' := 11) rfl ?_
  refine own_icT X1 hx hby d4_11 (by decide) (by decide) (pc' := 30) (by decide) ?_
  refine own_aloadN X1 hx hby rfl rfl d4_30 (pc' := 31) rfl ?_
  refine own_getF X1 hx hby hZ hown (host := "") (Or.inl (hw _ (List.mem_of_getElem? (i := 15) rfl))) Via.refl eH1 F_o0_key d4_31 (pc' := 34) rfl (fun T2 X2 eH2 => ?_)
  refine own_iloadN X2 hx hby rfl d4_34 (pc' := 35) rfl ?_
  refine own_dloadN X2 hx hby rfl d4_35 (pc' := 36) rfl ?_
  refine own_dastore X2 hx hby hZ eH2 V_key_o0 (own_rg0 rg_p1) (n := p1.toNatClampNeg) rfl (by rw [List.length_map]; exact own_rgl rg_p1 hl_K) d4_36 (pc' := 37) rfl (fun T3 h3 X3 eH3 W3 => ?_)
  replace E_o0 := E_o0.wr W3
  replace F_o0_heap := F_o0_heap.other W3 (Or.inl ne_o0_key_o0)
  replace F_o0_position := F_o0_position.other W3 (Or.inl ne_o0_key_o0)
  replace F_o0_key := F_o0_key.other W3 (Or.inl ne_o0_key_o0)
  replace F_o0_size := F_o0_size.other W3 (Or.inl ne_o0_key_o0)
  replace V_heap_o0 := V_heap_o0.other W3 ne_heap_o0_key_o0
  replace V_position_o0 := V_position_o0.other W3 ne_position_o0_key_o0
  have N3 := Fr.snoc X3 N0 g_key_o0
  replace K0 := K0.wr W3 (Or.inl (by simp))
  replace Z0 := Nat.le_trans Z0 (Nat.le_of_eq W3.size.symm)
  have hl4 : (K.set p1.toNatClampNeg f2).length = 4 := by rw [List.length_set]; exact hl_K
  replace V_key_o0 : Ary tr Z h3 key_o0 .double ((K.set p1.toNatClampNeg f2).map Value.double) := by rw [List.map_set]; exact V_key_o0.set W3
  refine own_aloadN X3 hx hby rfl rfl d4_37 (pc' := 38) rfl ?_
  refine own_iload X3 hx hby rfl d4_38 (pc' := 40) rfl ?_
  refine own_iloadN X3 hx hby rfl d4_40 (pc' := 41) rfl ?_
  refine own_private X3 hx hby hZ (y := (⟨"com/example/cross_town/crosstown/solve/NodeHeap", "siftUp", "(II)V"⟩ : MethodName)) (rest := []) hown (hw _ (List.mem_of_getElem? (i := 28) rfl)) (hw _ (List.mem_of_getElem? (i := 29) rfl)) (hw _ (List.mem_of_getElem? (i := 2) rfl)) (hw _ (List.mem_of_getElem? (i := 30) rfl)) (hw _ (List.mem_of_getElem? (i := 31) rfl)) (hw _ (List.mem_of_getElem? (i := 3) rfl)) (by decide) (rm5l40 l Z a0 hw [] o0 p1 heap_o0 position_o0 key_o0 y1 y2 y3 P (K.set p1.toNatClampNeg f2) h3 n0 Z0 E_o0 F_o0_heap F_o0_position F_o0_key V_heap_o0 V_position_o0 (by first | assumption | rfl | (simp only [List.length_set]; first | assumption | rfl)) V_key_o0 (by first | assumption | rfl | (simp only [List.length_set]; first | assumption | rfl)) (own_nnk nnk nnf (own_rgl rg_p1 hl_K)) rg_p1 pv_p1 rg_y1 pv_y1 rg_y2 pv_y2 rg_y3 pv_y3 (by rw [(show kv (K.set p1.toNatClampNeg f2) p1 = zv f2 from by rw [own_kvs hl_K rg_p1 rg_p1, if_pos rfl]), (show kv (K.set p1.toNatClampNeg f2) y1 = kv K y1 from by rw [own_kvs hl_K rg_p1 rg_y1, if_neg d_p1_y1])]; omega) (by rw [(show kv (K.set p1.toNatClampNeg f2) p1 = zv f2 from by rw [own_kvs hl_K rg_p1 rg_p1, if_pos rfl]), (show kv (K.set p1.toNatClampNeg f2) y2 = kv K y2 from by rw [own_kvs hl_K rg_p1 rg_y2, if_neg d_p1_y2])]; omega) (by rw [(show kv (K.set p1.toNatClampNeg f2) y1 = kv K y1 from by rw [own_kvs hl_K rg_p1 rg_y1, if_neg d_p1_y1]), (show kv (K.set p1.toNatClampNeg f2) y3 = kv K y3 from by rw [own_kvs hl_K rg_p1 rg_y3, if_neg d_p1_y3])]; omega) g_heap_o0 ne_o0_heap_o0 ne_position_o0_heap_o0 g_position_o0 ne_o0_position_o0 (Ne.symm ne_position_o0_key_o0) (Ne.symm ne_heap_o0_key_o0)) eH3 (by rw [hml]; rfl) (a := o0) E_o0 (argsL := [(.int (0 : Int32)), (.int p1)]) rfl (lenOf pd_1 rfl) rfl d4_41 (pc' := 44) rfl (by decide) (W := 0) (Nat.le_of_eq rfl) (by decide) (by decide) (by decide) (fun T5 h5 Lc5 v5r X5 eH5 hQ5 => ?_)
  obtain ⟨rfl, Nq5, Kq5, gq5_0, gq5_1, gq5_2⟩ := hQ5
  have N5 := Fr.app N3 Nq5
  replace E_o0 := E_o0.keep Kq5
  replace F_o0_heap := F_o0_heap.keep Kq5 (ninS ne_o0_position_o0 (ninS ne_o0_heap_o0 nin0))
  replace F_o0_position := F_o0_position.keep Kq5 (ninS ne_o0_position_o0 (ninS ne_o0_heap_o0 nin0))
  replace F_o0_key := F_o0_key.keep Kq5 (ninS ne_o0_position_o0 (ninS ne_o0_heap_o0 nin0))
  replace F_o0_size := F_o0_size.keep Kq5 (ninS ne_o0_position_o0 (ninS ne_o0_heap_o0 nin0))
  replace V_key_o0 := V_key_o0.keep Kq5 (ninS (Ne.symm ne_position_o0_key_o0) (ninS (Ne.symm ne_heap_o0_key_o0) nin0))
  replace K0 := K0.trans Kq5 (allS (Or.inl (by simp)) (allS (Or.inl (by simp)) all0))
  have hl6 : (P.set p1.toNatClampNeg (0 : Int32)).length = 4 := by (repeat' split) <;> (simp only [List.length_set]; first | assumption | rfl)
  have V_position_o0 := gq5_0
  have V_heap_o0 := gq5_1
  have hp_5 : Hp4 p1 y1 y2 y3 (P.set p1.toNatClampNeg (0 : Int32)) (K.set p1.toNatClampNeg f2) := gq5_2
  replace Z0 := Nat.le_trans Z0 Kq5.1
  exact own_retV X5 hx hby Bd.notSynchronized Bd.returns d4_44 (by decide) (by decide) eH5 ⟨rfl, N5, K0, V_key_o0, V_heap_o0, V_position_o0, hp_5, (own_nnk nnk nnf (own_rgl rg_p1 hl_K))⟩
theorem ef4l41 (m : MethodId) (x0 : Addr) (x1 : Int32) (x2 : UInt64) : entryFrame m #[(.ref x0), (.int x1), (.double x2)] 5 = mkF m 0 #[.val (.ref x0), .val (.int x1), .val (.double x2), .second, .unset] [] := by first | (simp [entryFrame, mkF, argsToLocals, Value.category]; done) | rfl
def Q4l41 (Z : State) (o0 : Addr) (p1 : Int32) (f2 : UInt64) (heap_o0 : Addr) (position_o0 : Addr) (key_o0 : Addr) (y0 : Int32) (y2 : Int32) (y3 : Int32) (P : List Int32) (K : List UInt64) (h0 : Heap) (n0 : Nat) (v : Option Value) (h : Heap) (L : List Loc) : Prop := v = none ∧ Fr n0 L ∧ Keep h0 h [key_o0, heap_o0, position_o0] ∧ Ary tr Z h key_o0 .double ((K.set p1.toNatClampNeg f2).map Value.double) ∧ Ary tr Z h heap_o0 .int [(.int (if dle ((K.set p1.toNatClampNeg f2).getD y0.toNatClampNeg 0) ((K.set p1.toNatClampNeg f2).getD p1.toNatClampNeg 0) then y0 else p1)), (.int (if dle ((K.set p1.toNatClampNeg f2).getD y0.toNatClampNeg 0) ((K.set p1.toNatClampNeg f2).getD p1.toNatClampNeg 0) then p1 else y0)), (.int y2), (.int y3)] ∧ Ary tr Z h position_o0 .int ((if dle ((K.set p1.toNatClampNeg f2).getD y0.toNatClampNeg 0) ((K.set p1.toNatClampNeg f2).getD p1.toNatClampNeg 0) then (P.set p1.toNatClampNeg (1 : Int32)) else ((P.set y0.toNatClampNeg (1 : Int32)).set p1.toNatClampNeg (0 : Int32))).map Value.int) ∧ (Hp4 (if dle ((K.set p1.toNatClampNeg f2).getD y0.toNatClampNeg 0) ((K.set p1.toNatClampNeg f2).getD p1.toNatClampNeg 0) then y0 else p1) (if dle ((K.set p1.toNatClampNeg f2).getD y0.toNatClampNeg 0) ((K.set p1.toNatClampNeg f2).getD p1.toNatClampNeg 0) then p1 else y0) y2 y3 (if dle ((K.set p1.toNatClampNeg f2).getD y0.toNatClampNeg 0) ((K.set p1.toNatClampNeg f2).getD p1.toNatClampNeg 0) then (P.set p1.toNatClampNeg (1 : Int32)) else ((P.set y0.toNatClampNeg (1 : Int32)).set p1.toNatClampNeg (0 : Int32))) (K.set p1.toNatClampNeg f2)) ∧ (NNk (K.set p1.toNatClampNeg f2))
set_option maxRecDepth 65536 in
set_option maxHeartbeats 40000000 in
theorem rm4l41 (l : Launch) (Z : State) (a0 : Array Value) (hw : ∀ d ∈ tables_1, d.before a0 Z = true) (ws : List Jvm.Cond) (o0 : Addr) (p1 : Int32) (f2 : UInt64) (heap_o0 : Addr) (position_o0 : Addr) (key_o0 : Addr) (y0 : Int32) (y2 : Int32) (y3 : Int32) (P : List Int32) (K : List UInt64) (h0 : Heap) (n0 : Nat) (Z0 : n0 ≤ h0.size) (E_o0 : Exa Z h0 o0 "com/example/cross_town/crosstown/solve/NodeHeap") (F_o0_heap : Fld Z h0 o0 "com/example/cross_town/crosstown/solve/NodeHeap" "heap" "[I" (.ref heap_o0)) (F_o0_position : Fld Z h0 o0 "com/example/cross_town/crosstown/solve/NodeHeap" "position" "[I" (.ref position_o0)) (F_o0_key : Fld Z h0 o0 "com/example/cross_town/crosstown/solve/NodeHeap" "key" "[D" (.ref key_o0)) (F_o0_size : Fld Z h0 o0 "com/example/cross_town/crosstown/solve/NodeHeap" "size" "I" (.int (4 : Int32))) (V_heap_o0 : Ary tr Z h0 heap_o0 .int [(.int y0), (.int p1), (.int y2), (.int y3)]) (V_position_o0 : Ary tr Z h0 position_o0 .int (P.map Value.int)) (hl_P : (P.length = 4)) (V_key_o0 : Ary tr Z h0 key_o0 .double (K.map Value.double)) (hl_K : (K.length = 4)) (nnk : (NNk K)) (nnf : (FP.Core.val64 f2 ≠ .nan)) (hp : (Hp4 y0 p1 y2 y3 P K)) (hlow : (zv f2 ≤ kv K p1)) (g_key_o0 : n0 ≤ key_o0) (ne_o0_key_o0 : o0 ≠ key_o0) (ne_heap_o0_key_o0 : heap_o0 ≠ key_o0) (ne_position_o0_key_o0 : position_o0 ≠ key_o0) (g_heap_o0 : n0 ≤ heap_o0) (ne_o0_heap_o0 : o0 ≠ heap_o0) (ne_position_o0_heap_o0 : position_o0 ≠ heap_o0) (g_position_o0 : n0 ≤ position_o0) (ne_o0_position_o0 : o0 ≠ position_o0) :
    MetFree l (⟨"com/example/cross_town/crosstown/solve/NodeHeap", "insertOrLower", "(ID)V"⟩ : MethodName) (head1 (Jvm.Cond.code (⟨"com/example/cross_town/crosstown/solve/NodeHeap", "insertOrLower", "(ID)V"⟩ : MethodName) prog_33_method_3_code 5 none :: ws) ({ frames := 2, cells := 0, slots := 0, locals := 30 } : Room)) (fun a U => a = #[(.ref o0), (.int p1), (.double f2)] ∧ Z.Warmed39 U.vm ∧ U.heap = h0) (fun _ _ _ _ _ => True) (fun _ U o U' => ∃ v L, o = .returned v ∧ Q4l41 Z o0 p1 f2 heap_o0 position_o0 key_o0 y0 y2 y3 P K h0 n0 v U'.heap L ∧ FrameEnd U o U' L ({ frames := 2, cells := 0, slots := 0, locals := 30 } : Room).cells ({ frames := 2, cells := 0, slots := 0, locals := 30 } : Room).slots) := by
  refine MetFree.of_bodySF (plainFor_of_name pn_com_example_cross_town_crosstown_solve_NodeHeap) hisR ?_
  intro p e s m args below meth c s₁ Bd hml0 hP hK
  obtain ⟨rfl, hZ, hh⟩ := hP
  have hx := Bd.exec
  have hby := Bd.bytes
  have hml : c.maxLocals = 5 := hml0
  have hown : s.vm.findClass "com/example/cross_town/crosstown/solve/NodeHeap" = some m.cls := findClass_of_methodNamed Bd.named
  have hnm := (name_of_methodNamed Bd.named Bd.method).1
  have X0 : Stand p l e ({ frames := 2, cells := 0, slots := 0, locals := 30 } : Room) s m #[(.ref o0), (.int p1), (.double f2)] below meth c s₁ [] 0 0 := Stand.of_body Bd
  have eH0 : s₁.heap = h0 := by rw [← hh, Bd.state]; rfl
  have N0 := Fr.nil n0
  have K0 := Keep.refl h0 [key_o0, heap_o0, position_o0]
  show Gt p.tables e below (fun o U' => ∃ v L, o = .returned v ∧ Q4l41 Z o0 p1 f2 heap_o0 position_o0 key_o0 y0 y2 y3 P K h0 n0 v U'.heap L ∧ FrameEnd s o U' L ({ frames := 2, cells := 0, slots := 0, locals := 30 } : Room).cells ({ frames := 2, cells := 0, slots := 0, locals := 30 } : Room).slots) _
  refine own_cast (ef4l41 m o0 p1 f2) ?_
  obtain ⟨rg_y0, rg_p1, rg_y2, rg_y3, pv_y0, pv_p1, pv_y2, pv_y3, ord1, ord2, ord3⟩ := hp
  have d_y0_p1 : ¬ y0.toInt = p1.toInt := own_pne pv_y0 pv_p1 (by decide)
  have d_y0_y2 : ¬ y0.toInt = y2.toInt := own_pne pv_y0 pv_y2 (by decide)
  have d_y0_y3 : ¬ y0.toInt = y3.toInt := own_pne pv_y0 pv_y3 (by decide)
  have d_p1_y0 : ¬ p1.toInt = y0.toInt := own_pne pv_p1 pv_y0 (by decide)
  have d_p1_y2 : ¬ p1.toInt = y2.toInt := own_pne pv_p1 pv_y2 (by decide)
  have d_p1_y3 : ¬ p1.toInt = y3.toInt := own_pne pv_p1 pv_y3 (by decide)
  have d_y2_y0 : ¬ y2.toInt = y0.toInt := own_pne pv_y2 pv_y0 (by decide)
  have d_y2_p1 : ¬ y2.toInt = p1.toInt := own_pne pv_y2 pv_p1 (by decide)
  have d_y2_y3 : ¬ y2.toInt = y3.toInt := own_pne pv_y2 pv_y3 (by decide)
  have d_y3_y0 : ¬ y3.toInt = y0.toInt := own_pne pv_y3 pv_y0 (by decide)
  have d_y3_p1 : ¬ y3.toInt = p1.toInt := own_pne pv_y3 pv_p1 (by decide)
  have d_y3_y2 : ¬ y3.toInt = y2.toInt := own_pne pv_y3 pv_y2 (by decide)
  refine own_aloadN X0 hx hby rfl rfl d4_0 (pc' := 1) rfl ?_
  refine own_getF X0 hx hby hZ hown (host := "") (Or.inl (hw _ (List.mem_of_getElem? (i := 13) rfl))) Via.refl eH0 F_o0_position d4_1 (pc' := 4) rfl (fun T1 X1 eH1 => ?_)
  refine own_iloadN X1 hx hby rfl d4_4 (pc' := 5) rfl ?_
  refine own_iaload X1 hx hby hZ eH1 V_position_o0 (own_rg0 rg_p1) (v := (.int (P.getD p1.toNatClampNeg 0))) (own_lget (own_rgl rg_p1 hl_P)) d4_5 (pc' := 6) rfl ?_
  refine own_istore X1 hx hby (L' := #[.val (.ref o0), .val (.int p1), .val (.double f2), .second, .val (.int (P.getD p1.toNatClampNeg 0))]) rfl d4_6 (pc' := 8) rfl ?_
  rw [own_pm (i := (1 : Int32)) pv_p1 (by decide)]
  refine own_iload X1 hx hby rfl d4_8 (pc' := 10) rfl ?_
  refine own_iconst X1 hx hby (v := (-1 : Int32)) (by decide) d4_10 (pc' := 11) rfl ?_
  refine own_icT X1 hx hby d4_11 (by decide) (by decide) (pc' := 30) (by decide) ?_
  refine own_aloadN X1 hx hby rfl rfl d4_30 (pc' := 31) rfl ?_
  refine own_getF X1 hx hby hZ hown (host := "") (Or.inl (hw _ (List.mem_of_getElem? (i := 15) rfl))) Via.refl eH1 F_o0_key d4_31 (pc' := 34) rfl (fun T2 X2 eH2 => ?_)
  refine own_iloadN X2 hx hby rfl d4_34 (pc' := 35) rfl ?_
  refine own_dloadN X2 hx hby rfl d4_35 (pc' := 36) rfl ?_
  refine own_dastore X2 hx hby hZ eH2 V_key_o0 (own_rg0 rg_p1) (n := p1.toNatClampNeg) rfl (by rw [List.length_map]; exact own_rgl rg_p1 hl_K) d4_36 (pc' := 37) rfl (fun T3 h3 X3 eH3 W3 => ?_)
  replace E_o0 := E_o0.wr W3
  replace F_o0_heap := F_o0_heap.other W3 (Or.inl ne_o0_key_o0)
  replace F_o0_position := F_o0_position.other W3 (Or.inl ne_o0_key_o0)
  replace F_o0_key := F_o0_key.other W3 (Or.inl ne_o0_key_o0)
  replace F_o0_size := F_o0_size.other W3 (Or.inl ne_o0_key_o0)
  replace V_heap_o0 := V_heap_o0.other W3 ne_heap_o0_key_o0
  replace V_position_o0 := V_position_o0.other W3 ne_position_o0_key_o0
  have N3 := Fr.snoc X3 N0 g_key_o0
  replace K0 := K0.wr W3 (Or.inl (by simp))
  replace Z0 := Nat.le_trans Z0 (Nat.le_of_eq W3.size.symm)
  have hl4 : (K.set p1.toNatClampNeg f2).length = 4 := by rw [List.length_set]; exact hl_K
  replace V_key_o0 : Ary tr Z h3 key_o0 .double ((K.set p1.toNatClampNeg f2).map Value.double) := by rw [List.map_set]; exact V_key_o0.set W3
  refine own_aloadN X3 hx hby rfl rfl d4_37 (pc' := 38) rfl ?_
  refine own_iload X3 hx hby rfl d4_38 (pc' := 40) rfl ?_
  refine own_iloadN X3 hx hby rfl d4_40 (pc' := 41) rfl ?_
  refine own_private X3 hx hby hZ (y := (⟨"com/example/cross_town/crosstown/solve/NodeHeap", "siftUp", "(II)V"⟩ : MethodName)) (rest := []) hown (hw _ (List.mem_of_getElem? (i := 28) rfl)) (hw _ (List.mem_of_getElem? (i := 29) rfl)) (hw _ (List.mem_of_getElem? (i := 2) rfl)) (hw _ (List.mem_of_getElem? (i := 30) rfl)) (hw _ (List.mem_of_getElem? (i := 31) rfl)) (hw _ (List.mem_of_getElem? (i := 3) rfl)) (by decide) (rm5l41 l Z a0 hw [] o0 p1 heap_o0 position_o0 key_o0 y0 y2 y3 P (K.set p1.toNatClampNeg f2) h3 n0 Z0 E_o0 F_o0_heap F_o0_position F_o0_key V_heap_o0 V_position_o0 (by first | assumption | rfl | (simp only [List.length_set]; first | assumption | rfl)) V_key_o0 (by first | assumption | rfl | (simp only [List.length_set]; first | assumption | rfl)) (own_nnk nnk nnf (own_rgl rg_p1 hl_K)) rg_y0 pv_y0 rg_p1 pv_p1 rg_y2 pv_y2 rg_y3 pv_y3 (by rw [(show kv (K.set p1.toNatClampNeg f2) y0 = kv K y0 from by rw [own_kvs hl_K rg_p1 rg_y0, if_neg d_p1_y0]), (show kv (K.set p1.toNatClampNeg f2) y2 = kv K y2 from by rw [own_kvs hl_K rg_p1 rg_y2, if_neg d_p1_y2])]; omega) (by rw [(show kv (K.set p1.toNatClampNeg f2) p1 = zv f2 from by rw [own_kvs hl_K rg_p1 rg_p1, if_pos rfl]), (show kv (K.set p1.toNatClampNeg f2) y3 = kv K y3 from by rw [own_kvs hl_K rg_p1 rg_y3, if_neg d_p1_y3])]; omega) (by rw [(show kv (K.set p1.toNatClampNeg f2) y0 = kv K y0 from by rw [own_kvs hl_K rg_p1 rg_y0, if_neg d_p1_y0]), (show kv (K.set p1.toNatClampNeg f2) y3 = kv K y3 from by rw [own_kvs hl_K rg_p1 rg_y3, if_neg d_p1_y3])]; omega) g_heap_o0 ne_o0_heap_o0 ne_position_o0_heap_o0 g_position_o0 ne_o0_position_o0 (Ne.symm ne_position_o0_key_o0) (Ne.symm ne_heap_o0_key_o0)) eH3 (by rw [hml]; rfl) (a := o0) E_o0 (argsL := [(.int (1 : Int32)), (.int p1)]) rfl (lenOf pd_1 rfl) rfl d4_41 (pc' := 44) rfl (by decide) (W := 0) (Nat.le_of_eq rfl) (by decide) (by decide) (by decide) (fun T5 h5 Lc5 v5r X5 eH5 hQ5 => ?_)
  obtain ⟨rfl, Nq5, Kq5, gq5_0, gq5_1, gq5_2⟩ := hQ5
  have N5 := Fr.app N3 Nq5
  replace E_o0 := E_o0.keep Kq5
  replace F_o0_heap := F_o0_heap.keep Kq5 (ninS ne_o0_position_o0 (ninS ne_o0_heap_o0 nin0))
  replace F_o0_position := F_o0_position.keep Kq5 (ninS ne_o0_position_o0 (ninS ne_o0_heap_o0 nin0))
  replace F_o0_key := F_o0_key.keep Kq5 (ninS ne_o0_position_o0 (ninS ne_o0_heap_o0 nin0))
  replace F_o0_size := F_o0_size.keep Kq5 (ninS ne_o0_position_o0 (ninS ne_o0_heap_o0 nin0))
  replace V_key_o0 := V_key_o0.keep Kq5 (ninS (Ne.symm ne_position_o0_key_o0) (ninS (Ne.symm ne_heap_o0_key_o0) nin0))
  replace K0 := K0.trans Kq5 (allS (Or.inl (by simp)) (allS (Or.inl (by simp)) all0))
  have hl6 : (if dle ((K.set p1.toNatClampNeg f2).getD y0.toNatClampNeg 0) ((K.set p1.toNatClampNeg f2).getD p1.toNatClampNeg 0) then (P.set p1.toNatClampNeg (1 : Int32)) else ((P.set y0.toNatClampNeg (1 : Int32)).set p1.toNatClampNeg (0 : Int32))).length = 4 := by (repeat' split) <;> (simp only [List.length_set]; first | assumption | rfl)
  have V_position_o0 := gq5_0
  have V_heap_o0 := gq5_1
  have hp_5 : Hp4 (if dle ((K.set p1.toNatClampNeg f2).getD y0.toNatClampNeg 0) ((K.set p1.toNatClampNeg f2).getD p1.toNatClampNeg 0) then y0 else p1) (if dle ((K.set p1.toNatClampNeg f2).getD y0.toNatClampNeg 0) ((K.set p1.toNatClampNeg f2).getD p1.toNatClampNeg 0) then p1 else y0) y2 y3 (if dle ((K.set p1.toNatClampNeg f2).getD y0.toNatClampNeg 0) ((K.set p1.toNatClampNeg f2).getD p1.toNatClampNeg 0) then (P.set p1.toNatClampNeg (1 : Int32)) else ((P.set y0.toNatClampNeg (1 : Int32)).set p1.toNatClampNeg (0 : Int32))) (K.set p1.toNatClampNeg f2) := gq5_2
  replace Z0 := Nat.le_trans Z0 Kq5.1
  exact own_retV X5 hx hby Bd.notSynchronized Bd.returns d4_44 (by decide) (by decide) eH5 ⟨rfl, N5, K0, V_key_o0, V_heap_o0, V_position_o0, hp_5, (own_nnk nnk nnf (own_rgl rg_p1 hl_K))⟩
theorem ef4l42 (m : MethodId) (x0 : Addr) (x1 : Int32) (x2 : UInt64) : entryFrame m #[(.ref x0), (.int x1), (.double x2)] 5 = mkF m 0 #[.val (.ref x0), .val (.int x1), .val (.double x2), .second, .unset] [] := by first | (simp [entryFrame, mkF, argsToLocals, Value.category]; done) | rfl
def Q4l42 (Z : State) (o0 : Addr) (p1 : Int32) (f2 : UInt64) (heap_o0 : Addr) (position_o0 : Addr) (key_o0 : Addr) (y0 : Int32) (y1 : Int32) (y3 : Int32) (P : List Int32) (K : List UInt64) (h0 : Heap) (n0 : Nat) (v : Option Value) (h : Heap) (L : List Loc) : Prop := v = none ∧ Fr n0 L ∧ Keep h0 h [key_o0, heap_o0, position_o0] ∧ Ary tr Z h key_o0 .double ((K.set p1.toNatClampNeg f2).map Value.double) ∧ Ary tr Z h heap_o0 .int [(.int (if dle ((K.set p1.toNatClampNeg f2).getD y0.toNatClampNeg 0) ((K.set p1.toNatClampNeg f2).getD p1.toNatClampNeg 0) then y0 else p1)), (.int y1), (.int (if dle ((K.set p1.toNatClampNeg f2).getD y0.toNatClampNeg 0) ((K.set p1.toNatClampNeg f2).getD p1.toNatClampNeg 0) then p1 else y0)), (.int y3)] ∧ Ary tr Z h position_o0 .int ((if dle ((K.set p1.toNatClampNeg f2).getD y0.toNatClampNeg 0) ((K.set p1.toNatClampNeg f2).getD p1.toNatClampNeg 0) then (P.set p1.toNatClampNeg (2 : Int32)) else ((P.set y0.toNatClampNeg (2 : Int32)).set p1.toNatClampNeg (0 : Int32))).map Value.int) ∧ (Hp4 (if dle ((K.set p1.toNatClampNeg f2).getD y0.toNatClampNeg 0) ((K.set p1.toNatClampNeg f2).getD p1.toNatClampNeg 0) then y0 else p1) y1 (if dle ((K.set p1.toNatClampNeg f2).getD y0.toNatClampNeg 0) ((K.set p1.toNatClampNeg f2).getD p1.toNatClampNeg 0) then p1 else y0) y3 (if dle ((K.set p1.toNatClampNeg f2).getD y0.toNatClampNeg 0) ((K.set p1.toNatClampNeg f2).getD p1.toNatClampNeg 0) then (P.set p1.toNatClampNeg (2 : Int32)) else ((P.set y0.toNatClampNeg (2 : Int32)).set p1.toNatClampNeg (0 : Int32))) (K.set p1.toNatClampNeg f2)) ∧ (NNk (K.set p1.toNatClampNeg f2))
set_option maxRecDepth 65536 in
set_option maxHeartbeats 40000000 in
theorem rm4l42 (l : Launch) (Z : State) (a0 : Array Value) (hw : ∀ d ∈ tables_1, d.before a0 Z = true) (ws : List Jvm.Cond) (o0 : Addr) (p1 : Int32) (f2 : UInt64) (heap_o0 : Addr) (position_o0 : Addr) (key_o0 : Addr) (y0 : Int32) (y1 : Int32) (y3 : Int32) (P : List Int32) (K : List UInt64) (h0 : Heap) (n0 : Nat) (Z0 : n0 ≤ h0.size) (E_o0 : Exa Z h0 o0 "com/example/cross_town/crosstown/solve/NodeHeap") (F_o0_heap : Fld Z h0 o0 "com/example/cross_town/crosstown/solve/NodeHeap" "heap" "[I" (.ref heap_o0)) (F_o0_position : Fld Z h0 o0 "com/example/cross_town/crosstown/solve/NodeHeap" "position" "[I" (.ref position_o0)) (F_o0_key : Fld Z h0 o0 "com/example/cross_town/crosstown/solve/NodeHeap" "key" "[D" (.ref key_o0)) (F_o0_size : Fld Z h0 o0 "com/example/cross_town/crosstown/solve/NodeHeap" "size" "I" (.int (4 : Int32))) (V_heap_o0 : Ary tr Z h0 heap_o0 .int [(.int y0), (.int y1), (.int p1), (.int y3)]) (V_position_o0 : Ary tr Z h0 position_o0 .int (P.map Value.int)) (hl_P : (P.length = 4)) (V_key_o0 : Ary tr Z h0 key_o0 .double (K.map Value.double)) (hl_K : (K.length = 4)) (nnk : (NNk K)) (nnf : (FP.Core.val64 f2 ≠ .nan)) (hp : (Hp4 y0 y1 p1 y3 P K)) (hlow : (zv f2 ≤ kv K p1)) (g_key_o0 : n0 ≤ key_o0) (ne_o0_key_o0 : o0 ≠ key_o0) (ne_heap_o0_key_o0 : heap_o0 ≠ key_o0) (ne_position_o0_key_o0 : position_o0 ≠ key_o0) (g_heap_o0 : n0 ≤ heap_o0) (ne_o0_heap_o0 : o0 ≠ heap_o0) (ne_position_o0_heap_o0 : position_o0 ≠ heap_o0) (g_position_o0 : n0 ≤ position_o0) (ne_o0_position_o0 : o0 ≠ position_o0) :
    MetFree l (⟨"com/example/cross_town/crosstown/solve/NodeHeap", "insertOrLower", "(ID)V"⟩ : MethodName) (head1 (Jvm.Cond.code (⟨"com/example/cross_town/crosstown/solve/NodeHeap", "insertOrLower", "(ID)V"⟩ : MethodName) prog_33_method_3_code 5 none :: ws) ({ frames := 2, cells := 0, slots := 0, locals := 30 } : Room)) (fun a U => a = #[(.ref o0), (.int p1), (.double f2)] ∧ Z.Warmed39 U.vm ∧ U.heap = h0) (fun _ _ _ _ _ => True) (fun _ U o U' => ∃ v L, o = .returned v ∧ Q4l42 Z o0 p1 f2 heap_o0 position_o0 key_o0 y0 y1 y3 P K h0 n0 v U'.heap L ∧ FrameEnd U o U' L ({ frames := 2, cells := 0, slots := 0, locals := 30 } : Room).cells ({ frames := 2, cells := 0, slots := 0, locals := 30 } : Room).slots) := by
  refine MetFree.of_bodySF (plainFor_of_name pn_com_example_cross_town_crosstown_solve_NodeHeap) hisR ?_
  intro p e s m args below meth c s₁ Bd hml0 hP hK
  obtain ⟨rfl, hZ, hh⟩ := hP
  have hx := Bd.exec
  have hby := Bd.bytes
  have hml : c.maxLocals = 5 := hml0
  have hown : s.vm.findClass "com/example/cross_town/crosstown/solve/NodeHeap" = some m.cls := findClass_of_methodNamed Bd.named
  have hnm := (name_of_methodNamed Bd.named Bd.method).1
  have X0 : Stand p l e ({ frames := 2, cells := 0, slots := 0, locals := 30 } : Room) s m #[(.ref o0), (.int p1), (.double f2)] below meth c s₁ [] 0 0 := Stand.of_body Bd
  have eH0 : s₁.heap = h0 := by rw [← hh, Bd.state]; rfl
  have N0 := Fr.nil n0
  have K0 := Keep.refl h0 [key_o0, heap_o0, position_o0]
  show Gt p.tables e below (fun o U' => ∃ v L, o = .returned v ∧ Q4l42 Z o0 p1 f2 heap_o0 position_o0 key_o0 y0 y1 y3 P K h0 n0 v U'.heap L ∧ FrameEnd s o U' L ({ frames := 2, cells := 0, slots := 0, locals := 30 } : Room).cells ({ frames := 2, cells := 0, slots := 0, locals := 30 } : Room).slots) _
  refine own_cast (ef4l42 m o0 p1 f2) ?_
  obtain ⟨rg_y0, rg_y1, rg_p1, rg_y3, pv_y0, pv_y1, pv_p1, pv_y3, ord1, ord2, ord3⟩ := hp
  have d_y0_y1 : ¬ y0.toInt = y1.toInt := own_pne pv_y0 pv_y1 (by decide)
  have d_y0_p1 : ¬ y0.toInt = p1.toInt := own_pne pv_y0 pv_p1 (by decide)
  have d_y0_y3 : ¬ y0.toInt = y3.toInt := own_pne pv_y0 pv_y3 (by decide)
  have d_y1_y0 : ¬ y1.toInt = y0.toInt := own_pne pv_y1 pv_y0 (by decide)
  have d_y1_p1 : ¬ y1.toInt = p1.toInt := own_pne pv_y1 pv_p1 (by decide)
  have d_y1_y3 : ¬ y1.toInt = y3.toInt := own_pne pv_y1 pv_y3 (by decide)
  have d_p1_y0 : ¬ p1.toInt = y0.toInt := own_pne pv_p1 pv_y0 (by decide)
  have d_p1_y1 : ¬ p1.toInt = y1.toInt := own_pne pv_p1 pv_y1 (by decide)
  have d_p1_y3 : ¬ p1.toInt = y3.toInt := own_pne pv_p1 pv_y3 (by decide)
  have d_y3_y0 : ¬ y3.toInt = y0.toInt := own_pne pv_y3 pv_y0 (by decide)
  have d_y3_y1 : ¬ y3.toInt = y1.toInt := own_pne pv_y3 pv_y1 (by decide)
  have d_y3_p1 : ¬ y3.toInt = p1.toInt := own_pne pv_y3 pv_p1 (by decide)
  refine own_aloadN X0 hx hby rfl rfl d4_0 (pc' := 1) rfl ?_
  refine own_getF X0 hx hby hZ hown (host := "") (Or.inl (hw _ (List.mem_of_getElem? (i := 13) rfl))) Via.refl eH0 F_o0_position d4_1 (pc' := 4) rfl (fun T1 X1 eH1 => ?_)
  refine own_iloadN X1 hx hby rfl d4_4 (pc' := 5) rfl ?_
  refine own_iaload X1 hx hby hZ eH1 V_position_o0 (own_rg0 rg_p1) (v := (.int (P.getD p1.toNatClampNeg 0))) (own_lget (own_rgl rg_p1 hl_P)) d4_5 (pc' := 6) rfl ?_
  refine own_istore X1 hx hby (L' := #[.val (.ref o0), .val (.int p1), .val (.double f2), .second, .val (.int (P.getD p1.toNatClampNeg 0))]) rfl d4_6 (pc' := 8) rfl ?_
  rw [own_pm (i := (2 : Int32)) pv_p1 (by decide)]
  refine own_iload X1 hx hby rfl d4_8 (pc' := 10) rfl ?_
  refine own_iconst X1 hx hby (v := (-1 : Int32)) (by decide) d4_10 (pc' := 11) rfl ?_
  refine own_icT X1 hx hby d4_11 (by decide) (by decide) (pc' := 30) (by decide) ?_
  refine own_aloadN X1 hx hby rfl rfl d4_30 (pc' := 31) rfl ?_
  refine own_getF X1 hx hby hZ hown (host := "") (Or.inl (hw _ (List.mem_of_getElem? (i := 15) rfl))) Via.refl eH1 F_o0_key d4_31 (pc' := 34) rfl (fun T2 X2 eH2 => ?_)
  refine own_iloadN X2 hx hby rfl d4_34 (pc' := 35) rfl ?_
  refine own_dloadN X2 hx hby rfl d4_35 (pc' := 36) rfl ?_
  refine own_dastore X2 hx hby hZ eH2 V_key_o0 (own_rg0 rg_p1) (n := p1.toNatClampNeg) rfl (by rw [List.length_map]; exact own_rgl rg_p1 hl_K) d4_36 (pc' := 37) rfl (fun T3 h3 X3 eH3 W3 => ?_)
  replace E_o0 := E_o0.wr W3
  replace F_o0_heap := F_o0_heap.other W3 (Or.inl ne_o0_key_o0)
  replace F_o0_position := F_o0_position.other W3 (Or.inl ne_o0_key_o0)
  replace F_o0_key := F_o0_key.other W3 (Or.inl ne_o0_key_o0)
  replace F_o0_size := F_o0_size.other W3 (Or.inl ne_o0_key_o0)
  replace V_heap_o0 := V_heap_o0.other W3 ne_heap_o0_key_o0
  replace V_position_o0 := V_position_o0.other W3 ne_position_o0_key_o0
  have N3 := Fr.snoc X3 N0 g_key_o0
  replace K0 := K0.wr W3 (Or.inl (by simp))
  replace Z0 := Nat.le_trans Z0 (Nat.le_of_eq W3.size.symm)
  have hl4 : (K.set p1.toNatClampNeg f2).length = 4 := by rw [List.length_set]; exact hl_K
  replace V_key_o0 : Ary tr Z h3 key_o0 .double ((K.set p1.toNatClampNeg f2).map Value.double) := by rw [List.map_set]; exact V_key_o0.set W3
  refine own_aloadN X3 hx hby rfl rfl d4_37 (pc' := 38) rfl ?_
  refine own_iload X3 hx hby rfl d4_38 (pc' := 40) rfl ?_
  refine own_iloadN X3 hx hby rfl d4_40 (pc' := 41) rfl ?_
  refine own_private X3 hx hby hZ (y := (⟨"com/example/cross_town/crosstown/solve/NodeHeap", "siftUp", "(II)V"⟩ : MethodName)) (rest := []) hown (hw _ (List.mem_of_getElem? (i := 28) rfl)) (hw _ (List.mem_of_getElem? (i := 29) rfl)) (hw _ (List.mem_of_getElem? (i := 2) rfl)) (hw _ (List.mem_of_getElem? (i := 30) rfl)) (hw _ (List.mem_of_getElem? (i := 31) rfl)) (hw _ (List.mem_of_getElem? (i := 3) rfl)) (by decide) (rm5l42 l Z a0 hw [] o0 p1 heap_o0 position_o0 key_o0 y0 y1 y3 P (K.set p1.toNatClampNeg f2) h3 n0 Z0 E_o0 F_o0_heap F_o0_position F_o0_key V_heap_o0 V_position_o0 (by first | assumption | rfl | (simp only [List.length_set]; first | assumption | rfl)) V_key_o0 (by first | assumption | rfl | (simp only [List.length_set]; first | assumption | rfl)) (own_nnk nnk nnf (own_rgl rg_p1 hl_K)) rg_y0 pv_y0 rg_y1 pv_y1 rg_p1 pv_p1 rg_y3 pv_y3 (by rw [(show kv (K.set p1.toNatClampNeg f2) y0 = kv K y0 from by rw [own_kvs hl_K rg_p1 rg_y0, if_neg d_p1_y0]), (show kv (K.set p1.toNatClampNeg f2) y1 = kv K y1 from by rw [own_kvs hl_K rg_p1 rg_y1, if_neg d_p1_y1])]; omega) (by rw [(show kv (K.set p1.toNatClampNeg f2) y1 = kv K y1 from by rw [own_kvs hl_K rg_p1 rg_y1, if_neg d_p1_y1]), (show kv (K.set p1.toNatClampNeg f2) y3 = kv K y3 from by rw [own_kvs hl_K rg_p1 rg_y3, if_neg d_p1_y3])]; omega) g_heap_o0 ne_o0_heap_o0 ne_position_o0_heap_o0 g_position_o0 ne_o0_position_o0 (Ne.symm ne_position_o0_key_o0) (Ne.symm ne_heap_o0_key_o0)) eH3 (by rw [hml]; rfl) (a := o0) E_o0 (argsL := [(.int (2 : Int32)), (.int p1)]) rfl (lenOf pd_1 rfl) rfl d4_41 (pc' := 44) rfl (by decide) (W := 0) (Nat.le_of_eq rfl) (by decide) (by decide) (by decide) (fun T5 h5 Lc5 v5r X5 eH5 hQ5 => ?_)
  obtain ⟨rfl, Nq5, Kq5, gq5_0, gq5_1, gq5_2⟩ := hQ5
  have N5 := Fr.app N3 Nq5
  replace E_o0 := E_o0.keep Kq5
  replace F_o0_heap := F_o0_heap.keep Kq5 (ninS ne_o0_position_o0 (ninS ne_o0_heap_o0 nin0))
  replace F_o0_position := F_o0_position.keep Kq5 (ninS ne_o0_position_o0 (ninS ne_o0_heap_o0 nin0))
  replace F_o0_key := F_o0_key.keep Kq5 (ninS ne_o0_position_o0 (ninS ne_o0_heap_o0 nin0))
  replace F_o0_size := F_o0_size.keep Kq5 (ninS ne_o0_position_o0 (ninS ne_o0_heap_o0 nin0))
  replace V_key_o0 := V_key_o0.keep Kq5 (ninS (Ne.symm ne_position_o0_key_o0) (ninS (Ne.symm ne_heap_o0_key_o0) nin0))
  replace K0 := K0.trans Kq5 (allS (Or.inl (by simp)) (allS (Or.inl (by simp)) all0))
  have hl6 : (if dle ((K.set p1.toNatClampNeg f2).getD y0.toNatClampNeg 0) ((K.set p1.toNatClampNeg f2).getD p1.toNatClampNeg 0) then (P.set p1.toNatClampNeg (2 : Int32)) else ((P.set y0.toNatClampNeg (2 : Int32)).set p1.toNatClampNeg (0 : Int32))).length = 4 := by (repeat' split) <;> (simp only [List.length_set]; first | assumption | rfl)
  have V_position_o0 := gq5_0
  have V_heap_o0 := gq5_1
  have hp_5 : Hp4 (if dle ((K.set p1.toNatClampNeg f2).getD y0.toNatClampNeg 0) ((K.set p1.toNatClampNeg f2).getD p1.toNatClampNeg 0) then y0 else p1) y1 (if dle ((K.set p1.toNatClampNeg f2).getD y0.toNatClampNeg 0) ((K.set p1.toNatClampNeg f2).getD p1.toNatClampNeg 0) then p1 else y0) y3 (if dle ((K.set p1.toNatClampNeg f2).getD y0.toNatClampNeg 0) ((K.set p1.toNatClampNeg f2).getD p1.toNatClampNeg 0) then (P.set p1.toNatClampNeg (2 : Int32)) else ((P.set y0.toNatClampNeg (2 : Int32)).set p1.toNatClampNeg (0 : Int32))) (K.set p1.toNatClampNeg f2) := gq5_2
  replace Z0 := Nat.le_trans Z0 Kq5.1
  exact own_retV X5 hx hby Bd.notSynchronized Bd.returns d4_44 (by decide) (by decide) eH5 ⟨rfl, N5, K0, V_key_o0, V_heap_o0, V_position_o0, hp_5, (own_nnk nnk nnf (own_rgl rg_p1 hl_K))⟩
theorem ef4l43 (m : MethodId) (x0 : Addr) (x1 : Int32) (x2 : UInt64) : entryFrame m #[(.ref x0), (.int x1), (.double x2)] 5 = mkF m 0 #[.val (.ref x0), .val (.int x1), .val (.double x2), .second, .unset] [] := by first | (simp [entryFrame, mkF, argsToLocals, Value.category]; done) | rfl
def Q4l43 (Z : State) (o0 : Addr) (p1 : Int32) (f2 : UInt64) (heap_o0 : Addr) (position_o0 : Addr) (key_o0 : Addr) (y0 : Int32) (y1 : Int32) (y2 : Int32) (P : List Int32) (K : List UInt64) (h0 : Heap) (n0 : Nat) (v : Option Value) (h : Heap) (L : List Loc) : Prop := v = none ∧ Fr n0 L ∧ Keep h0 h [key_o0, heap_o0, position_o0] ∧ Ary tr Z h key_o0 .double ((K.set p1.toNatClampNeg f2).map Value.double) ∧ Ary tr Z h heap_o0 .int [(.int (if dle ((K.set p1.toNatClampNeg f2).getD y1.toNatClampNeg 0) ((K.set p1.toNatClampNeg f2).getD p1.toNatClampNeg 0) then y0 else (if dle ((K.set p1.toNatClampNeg f2).getD y0.toNatClampNeg 0) ((K.set p1.toNatClampNeg f2).getD p1.toNatClampNeg 0) then y0 else p1))), (.int (if dle ((K.set p1.toNatClampNeg f2).getD y1.toNatClampNeg 0) ((K.set p1.toNatClampNeg f2).getD p1.toNatClampNeg 0) then y1 else (if dle ((K.set p1.toNatClampNeg f2).getD y0.toNatClampNeg 0) ((K.set p1.toNatClampNeg f2).getD p1.toNatClampNeg 0) then p1 else y0))), (.int y2), (.int (if dle ((K.set p1.toNatClampNeg f2).getD y1.toNatClampNeg 0) ((K.set p1.toNatClampNeg f2).getD p1.toNatClampNeg 0) then p1 else (if dle ((K.set p1.toNatClampNeg f2).getD y0.toNatClampNeg 0) ((K.set p1.toNatClampNeg f2).getD p1.toNatClampNeg 0) then y1 else y1)))] ∧ Ary tr Z h position_o0 .int ((if dle ((K.set p1.toNatClampNeg f2).getD y1.toNatClampNeg 0) ((K.set p1.toNatClampNeg f2).getD p1.toNatClampNeg 0) then (P.set p1.toNatClampNeg (3 : Int32)) else (if dle ((K.set p1.toNatClampNeg f2).getD y0.toNatClampNeg 0) ((K.set p1.toNatClampNeg f2).getD p1.toNatClampNeg 0) then ((P.set y1.toNatClampNeg (3 : Int32)).set p1.toNatClampNeg (1 : Int32)) else (((P.set y1.toNatClampNeg (3 : Int32)).set y0.toNatClampNeg (1 : Int32)).set p1.toNatClampNeg (0 : Int32)))).map Value.int) ∧ (Hp4 (if dle ((K.set p1.toNatClampNeg f2).getD y1.toNatClampNeg 0) ((K.set p1.toNatClampNeg f2).getD p1.toNatClampNeg 0) then y0 else (if dle ((K.set p1.toNatClampNeg f2).getD y0.toNatClampNeg 0) ((K.set p1.toNatClampNeg f2).getD p1.toNatClampNeg 0) then y0 else p1)) (if dle ((K.set p1.toNatClampNeg f2).getD y1.toNatClampNeg 0) ((K.set p1.toNatClampNeg f2).getD p1.toNatClampNeg 0) then y1 else (if dle ((K.set p1.toNatClampNeg f2).getD y0.toNatClampNeg 0) ((K.set p1.toNatClampNeg f2).getD p1.toNatClampNeg 0) then p1 else y0)) y2 (if dle ((K.set p1.toNatClampNeg f2).getD y1.toNatClampNeg 0) ((K.set p1.toNatClampNeg f2).getD p1.toNatClampNeg 0) then p1 else (if dle ((K.set p1.toNatClampNeg f2).getD y0.toNatClampNeg 0) ((K.set p1.toNatClampNeg f2).getD p1.toNatClampNeg 0) then y1 else y1)) (if dle ((K.set p1.toNatClampNeg f2).getD y1.toNatClampNeg 0) ((K.set p1.toNatClampNeg f2).getD p1.toNatClampNeg 0) then (P.set p1.toNatClampNeg (3 : Int32)) else (if dle ((K.set p1.toNatClampNeg f2).getD y0.toNatClampNeg 0) ((K.set p1.toNatClampNeg f2).getD p1.toNatClampNeg 0) then ((P.set y1.toNatClampNeg (3 : Int32)).set p1.toNatClampNeg (1 : Int32)) else (((P.set y1.toNatClampNeg (3 : Int32)).set y0.toNatClampNeg (1 : Int32)).set p1.toNatClampNeg (0 : Int32)))) (K.set p1.toNatClampNeg f2)) ∧ (NNk (K.set p1.toNatClampNeg f2))
set_option maxRecDepth 65536 in
set_option maxHeartbeats 40000000 in
theorem rm4l43 (l : Launch) (Z : State) (a0 : Array Value) (hw : ∀ d ∈ tables_1, d.before a0 Z = true) (ws : List Jvm.Cond) (o0 : Addr) (p1 : Int32) (f2 : UInt64) (heap_o0 : Addr) (position_o0 : Addr) (key_o0 : Addr) (y0 : Int32) (y1 : Int32) (y2 : Int32) (P : List Int32) (K : List UInt64) (h0 : Heap) (n0 : Nat) (Z0 : n0 ≤ h0.size) (E_o0 : Exa Z h0 o0 "com/example/cross_town/crosstown/solve/NodeHeap") (F_o0_heap : Fld Z h0 o0 "com/example/cross_town/crosstown/solve/NodeHeap" "heap" "[I" (.ref heap_o0)) (F_o0_position : Fld Z h0 o0 "com/example/cross_town/crosstown/solve/NodeHeap" "position" "[I" (.ref position_o0)) (F_o0_key : Fld Z h0 o0 "com/example/cross_town/crosstown/solve/NodeHeap" "key" "[D" (.ref key_o0)) (F_o0_size : Fld Z h0 o0 "com/example/cross_town/crosstown/solve/NodeHeap" "size" "I" (.int (4 : Int32))) (V_heap_o0 : Ary tr Z h0 heap_o0 .int [(.int y0), (.int y1), (.int y2), (.int p1)]) (V_position_o0 : Ary tr Z h0 position_o0 .int (P.map Value.int)) (hl_P : (P.length = 4)) (V_key_o0 : Ary tr Z h0 key_o0 .double (K.map Value.double)) (hl_K : (K.length = 4)) (nnk : (NNk K)) (nnf : (FP.Core.val64 f2 ≠ .nan)) (hp : (Hp4 y0 y1 y2 p1 P K)) (hlow : (zv f2 ≤ kv K p1)) (g_key_o0 : n0 ≤ key_o0) (ne_o0_key_o0 : o0 ≠ key_o0) (ne_heap_o0_key_o0 : heap_o0 ≠ key_o0) (ne_position_o0_key_o0 : position_o0 ≠ key_o0) (g_heap_o0 : n0 ≤ heap_o0) (ne_o0_heap_o0 : o0 ≠ heap_o0) (ne_position_o0_heap_o0 : position_o0 ≠ heap_o0) (g_position_o0 : n0 ≤ position_o0) (ne_o0_position_o0 : o0 ≠ position_o0) :
    MetFree l (⟨"com/example/cross_town/crosstown/solve/NodeHeap", "insertOrLower", "(ID)V"⟩ : MethodName) (head1 (Jvm.Cond.code (⟨"com/example/cross_town/crosstown/solve/NodeHeap", "insertOrLower", "(ID)V"⟩ : MethodName) prog_33_method_3_code 5 none :: ws) ({ frames := 2, cells := 0, slots := 0, locals := 30 } : Room)) (fun a U => a = #[(.ref o0), (.int p1), (.double f2)] ∧ Z.Warmed39 U.vm ∧ U.heap = h0) (fun _ _ _ _ _ => True) (fun _ U o U' => ∃ v L, o = .returned v ∧ Q4l43 Z o0 p1 f2 heap_o0 position_o0 key_o0 y0 y1 y2 P K h0 n0 v U'.heap L ∧ FrameEnd U o U' L ({ frames := 2, cells := 0, slots := 0, locals := 30 } : Room).cells ({ frames := 2, cells := 0, slots := 0, locals := 30 } : Room).slots) := by
  refine MetFree.of_bodySF (plainFor_of_name pn_com_example_cross_town_crosstown_solve_NodeHeap) hisR ?_
  intro p e s m args below meth c s₁ Bd hml0 hP hK
  obtain ⟨rfl, hZ, hh⟩ := hP
  have hx := Bd.exec
  have hby := Bd.bytes
  have hml : c.maxLocals = 5 := hml0
  have hown : s.vm.findClass "com/example/cross_town/crosstown/solve/NodeHeap" = some m.cls := findClass_of_methodNamed Bd.named
  have hnm := (name_of_methodNamed Bd.named Bd.method).1
  have X0 : Stand p l e ({ frames := 2, cells := 0, slots := 0, locals := 30 } : Room) s m #[(.ref o0), (.int p1), (.double f2)] below meth c s₁ [] 0 0 := Stand.of_body Bd
  have eH0 : s₁.heap = h0 := by rw [← hh, Bd.state]; rfl
  have N0 := Fr.nil n0
  have K0 := Keep.refl h0 [key_o0, heap_o0, position_o0]
  show Gt p.tables e below (fun o U' => ∃ v L, o = .returned v ∧ Q4l43 Z o0 p1 f2 heap_o0 position_o0 key_o0 y0 y1 y2 P K h0 n0 v U'.heap L ∧ FrameEnd s o U' L ({ frames := 2, cells := 0, slots := 0, locals := 30 } : Room).cells ({ frames := 2, cells := 0, slots := 0, locals := 30 } : Room).slots) _
  refine own_cast (ef4l43 m o0 p1 f2) ?_
  obtain ⟨rg_y0, rg_y1, rg_y2, rg_p1, pv_y0, pv_y1, pv_y2, pv_p1, ord1, ord2, ord3⟩ := hp
  have d_y0_y1 : ¬ y0.toInt = y1.toInt := own_pne pv_y0 pv_y1 (by decide)
  have d_y0_y2 : ¬ y0.toInt = y2.toInt := own_pne pv_y0 pv_y2 (by decide)
  have d_y0_p1 : ¬ y0.toInt = p1.toInt := own_pne pv_y0 pv_p1 (by decide)
  have d_y1_y0 : ¬ y1.toInt = y0.toInt := own_pne pv_y1 pv_y0 (by decide)
  have d_y1_y2 : ¬ y1.toInt = y2.toInt := own_pne pv_y1 pv_y2 (by decide)
  have d_y1_p1 : ¬ y1.toInt = p1.toInt := own_pne pv_y1 pv_p1 (by decide)
  have d_y2_y0 : ¬ y2.toInt = y0.toInt := own_pne pv_y2 pv_y0 (by decide)
  have d_y2_y1 : ¬ y2.toInt = y1.toInt := own_pne pv_y2 pv_y1 (by decide)
  have d_y2_p1 : ¬ y2.toInt = p1.toInt := own_pne pv_y2 pv_p1 (by decide)
  have d_p1_y0 : ¬ p1.toInt = y0.toInt := own_pne pv_p1 pv_y0 (by decide)
  have d_p1_y1 : ¬ p1.toInt = y1.toInt := own_pne pv_p1 pv_y1 (by decide)
  have d_p1_y2 : ¬ p1.toInt = y2.toInt := own_pne pv_p1 pv_y2 (by decide)
  refine own_aloadN X0 hx hby rfl rfl d4_0 (pc' := 1) rfl ?_
  refine own_getF X0 hx hby hZ hown (host := "") (Or.inl (hw _ (List.mem_of_getElem? (i := 13) rfl))) Via.refl eH0 F_o0_position d4_1 (pc' := 4) rfl (fun T1 X1 eH1 => ?_)
  refine own_iloadN X1 hx hby rfl d4_4 (pc' := 5) rfl ?_
  refine own_iaload X1 hx hby hZ eH1 V_position_o0 (own_rg0 rg_p1) (v := (.int (P.getD p1.toNatClampNeg 0))) (own_lget (own_rgl rg_p1 hl_P)) d4_5 (pc' := 6) rfl ?_
  refine own_istore X1 hx hby (L' := #[.val (.ref o0), .val (.int p1), .val (.double f2), .second, .val (.int (P.getD p1.toNatClampNeg 0))]) rfl d4_6 (pc' := 8) rfl ?_
  rw [own_pm (i := (3 : Int32)) pv_p1 (by decide)]
  refine own_iload X1 hx hby rfl d4_8 (pc' := 10) rfl ?_
  refine own_iconst X1 hx hby (v := (-1 : Int32)) (by decide) d4_10 (pc' := 11) rfl ?_
  refine own_icT X1 hx hby d4_11 (by decide) (by decide) (pc' := 30) (by decide) ?_
  refine own_aloadN X1 hx hby rfl rfl d4_30 (pc' := 31) rfl ?_
  refine own_getF X1 hx hby hZ hown (host := "") (Or.inl (hw _ (List.mem_of_getElem? (i := 15) rfl))) Via.refl eH1 F_o0_key d4_31 (pc' := 34) rfl (fun T2 X2 eH2 => ?_)
  refine own_iloadN X2 hx hby rfl d4_34 (pc' := 35) rfl ?_
  refine own_dloadN X2 hx hby rfl d4_35 (pc' := 36) rfl ?_
  refine own_dastore X2 hx hby hZ eH2 V_key_o0 (own_rg0 rg_p1) (n := p1.toNatClampNeg) rfl (by rw [List.length_map]; exact own_rgl rg_p1 hl_K) d4_36 (pc' := 37) rfl (fun T3 h3 X3 eH3 W3 => ?_)
  replace E_o0 := E_o0.wr W3
  replace F_o0_heap := F_o0_heap.other W3 (Or.inl ne_o0_key_o0)
  replace F_o0_position := F_o0_position.other W3 (Or.inl ne_o0_key_o0)
  replace F_o0_key := F_o0_key.other W3 (Or.inl ne_o0_key_o0)
  replace F_o0_size := F_o0_size.other W3 (Or.inl ne_o0_key_o0)
  replace V_heap_o0 := V_heap_o0.other W3 ne_heap_o0_key_o0
  replace V_position_o0 := V_position_o0.other W3 ne_position_o0_key_o0
  have N3 := Fr.snoc X3 N0 g_key_o0
  replace K0 := K0.wr W3 (Or.inl (by simp))
  replace Z0 := Nat.le_trans Z0 (Nat.le_of_eq W3.size.symm)
  have hl4 : (K.set p1.toNatClampNeg f2).length = 4 := by rw [List.length_set]; exact hl_K
  replace V_key_o0 : Ary tr Z h3 key_o0 .double ((K.set p1.toNatClampNeg f2).map Value.double) := by rw [List.map_set]; exact V_key_o0.set W3
  refine own_aloadN X3 hx hby rfl rfl d4_37 (pc' := 38) rfl ?_
  refine own_iload X3 hx hby rfl d4_38 (pc' := 40) rfl ?_
  refine own_iloadN X3 hx hby rfl d4_40 (pc' := 41) rfl ?_
  refine own_private X3 hx hby hZ (y := (⟨"com/example/cross_town/crosstown/solve/NodeHeap", "siftUp", "(II)V"⟩ : MethodName)) (rest := []) hown (hw _ (List.mem_of_getElem? (i := 28) rfl)) (hw _ (List.mem_of_getElem? (i := 29) rfl)) (hw _ (List.mem_of_getElem? (i := 2) rfl)) (hw _ (List.mem_of_getElem? (i := 30) rfl)) (hw _ (List.mem_of_getElem? (i := 31) rfl)) (hw _ (List.mem_of_getElem? (i := 3) rfl)) (by decide) (rm5l43 l Z a0 hw [] o0 p1 heap_o0 position_o0 key_o0 y0 y1 y2 P (K.set p1.toNatClampNeg f2) h3 n0 Z0 E_o0 F_o0_heap F_o0_position F_o0_key V_heap_o0 V_position_o0 (by first | assumption | rfl | (simp only [List.length_set]; first | assumption | rfl)) V_key_o0 (by first | assumption | rfl | (simp only [List.length_set]; first | assumption | rfl)) (own_nnk nnk nnf (own_rgl rg_p1 hl_K)) rg_y0 pv_y0 rg_y1 pv_y1 rg_y2 pv_y2 rg_p1 pv_p1 (by rw [(show kv (K.set p1.toNatClampNeg f2) y0 = kv K y0 from by rw [own_kvs hl_K rg_p1 rg_y0, if_neg d_p1_y0]), (show kv (K.set p1.toNatClampNeg f2) y1 = kv K y1 from by rw [own_kvs hl_K rg_p1 rg_y1, if_neg d_p1_y1])]; omega) (by rw [(show kv (K.set p1.toNatClampNeg f2) y0 = kv K y0 from by rw [own_kvs hl_K rg_p1 rg_y0, if_neg d_p1_y0]), (show kv (K.set p1.toNatClampNeg f2) y2 = kv K y2 from by rw [own_kvs hl_K rg_p1 rg_y2, if_neg d_p1_y2])]; omega) g_heap_o0 ne_o0_heap_o0 ne_position_o0_heap_o0 g_position_o0 ne_o0_position_o0 (Ne.symm ne_position_o0_key_o0) (Ne.symm ne_heap_o0_key_o0)) eH3 (by rw [hml]; rfl) (a := o0) E_o0 (argsL := [(.int (3 : Int32)), (.int p1)]) rfl (lenOf pd_1 rfl) rfl d4_41 (pc' := 44) rfl (by decide) (W := 0) (Nat.le_of_eq rfl) (by decide) (by decide) (by decide) (fun T5 h5 Lc5 v5r X5 eH5 hQ5 => ?_)
  obtain ⟨rfl, Nq5, Kq5, gq5_0, gq5_1, gq5_2⟩ := hQ5
  have N5 := Fr.app N3 Nq5
  replace E_o0 := E_o0.keep Kq5
  replace F_o0_heap := F_o0_heap.keep Kq5 (ninS ne_o0_position_o0 (ninS ne_o0_heap_o0 nin0))
  replace F_o0_position := F_o0_position.keep Kq5 (ninS ne_o0_position_o0 (ninS ne_o0_heap_o0 nin0))
  replace F_o0_key := F_o0_key.keep Kq5 (ninS ne_o0_position_o0 (ninS ne_o0_heap_o0 nin0))
  replace F_o0_size := F_o0_size.keep Kq5 (ninS ne_o0_position_o0 (ninS ne_o0_heap_o0 nin0))
  replace V_key_o0 := V_key_o0.keep Kq5 (ninS (Ne.symm ne_position_o0_key_o0) (ninS (Ne.symm ne_heap_o0_key_o0) nin0))
  replace K0 := K0.trans Kq5 (allS (Or.inl (by simp)) (allS (Or.inl (by simp)) all0))
  have hl6 : (if dle ((K.set p1.toNatClampNeg f2).getD y1.toNatClampNeg 0) ((K.set p1.toNatClampNeg f2).getD p1.toNatClampNeg 0) then (P.set p1.toNatClampNeg (3 : Int32)) else (if dle ((K.set p1.toNatClampNeg f2).getD y0.toNatClampNeg 0) ((K.set p1.toNatClampNeg f2).getD p1.toNatClampNeg 0) then ((P.set y1.toNatClampNeg (3 : Int32)).set p1.toNatClampNeg (1 : Int32)) else (((P.set y1.toNatClampNeg (3 : Int32)).set y0.toNatClampNeg (1 : Int32)).set p1.toNatClampNeg (0 : Int32)))).length = 4 := by (repeat' split) <;> (simp only [List.length_set]; first | assumption | rfl)
  have V_position_o0 := gq5_0
  have V_heap_o0 := gq5_1
  have hp_5 : Hp4 (if dle ((K.set p1.toNatClampNeg f2).getD y1.toNatClampNeg 0) ((K.set p1.toNatClampNeg f2).getD p1.toNatClampNeg 0) then y0 else (if dle ((K.set p1.toNatClampNeg f2).getD y0.toNatClampNeg 0) ((K.set p1.toNatClampNeg f2).getD p1.toNatClampNeg 0) then y0 else p1)) (if dle ((K.set p1.toNatClampNeg f2).getD y1.toNatClampNeg 0) ((K.set p1.toNatClampNeg f2).getD p1.toNatClampNeg 0) then y1 else (if dle ((K.set p1.toNatClampNeg f2).getD y0.toNatClampNeg 0) ((K.set p1.toNatClampNeg f2).getD p1.toNatClampNeg 0) then p1 else y0)) y2 (if dle ((K.set p1.toNatClampNeg f2).getD y1.toNatClampNeg 0) ((K.set p1.toNatClampNeg f2).getD p1.toNatClampNeg 0) then p1 else (if dle ((K.set p1.toNatClampNeg f2).getD y0.toNatClampNeg 0) ((K.set p1.toNatClampNeg f2).getD p1.toNatClampNeg 0) then y1 else y1)) (if dle ((K.set p1.toNatClampNeg f2).getD y1.toNatClampNeg 0) ((K.set p1.toNatClampNeg f2).getD p1.toNatClampNeg 0) then (P.set p1.toNatClampNeg (3 : Int32)) else (if dle ((K.set p1.toNatClampNeg f2).getD y0.toNatClampNeg 0) ((K.set p1.toNatClampNeg f2).getD p1.toNatClampNeg 0) then ((P.set y1.toNatClampNeg (3 : Int32)).set p1.toNatClampNeg (1 : Int32)) else (((P.set y1.toNatClampNeg (3 : Int32)).set y0.toNatClampNeg (1 : Int32)).set p1.toNatClampNeg (0 : Int32)))) (K.set p1.toNatClampNeg f2) := gq5_2
  replace Z0 := Nat.le_trans Z0 Kq5.1
  exact own_retV X5 hx hby Bd.notSynchronized Bd.returns d4_44 (by decide) (by decide) eH5 ⟨rfl, N5, K0, V_key_o0, V_heap_o0, V_position_o0, hp_5, (own_nnk nnk nnf (own_rgl rg_p1 hl_K))⟩
theorem ef71 (m : MethodId) (x0 : Addr) : entryFrame m #[(.ref x0)] 2 = mkF m 0 #[.val (.ref x0), .unset] [] := by first | (simp [entryFrame, mkF, argsToLocals, Value.category]; done) | rfl
def Q71 (Z : State) (o0 : Addr) (heap_o0 : Addr) (position_o0 : Addr) (key_o0 : Addr) (y0 : Int32) (y1 : Int32) (y2 : Int32) (y3 : Int32) (P : List Int32) (K : List UInt64) (h0 : Heap) (n0 : Nat) (v : Option Value) (h : Heap) (L : List Loc) : Prop := v = some (.int y0) ∧ Fr n0 L ∧ Keep h0 h [position_o0, o0] ∧ Ary tr Z h position_o0 .int ((P.set y0.toNatClampNeg (-1 : Int32)).map Value.int) ∧ Exa Z h o0 "com/example/cross_town/crosstown/solve/NodeHeap" ∧ Fld Z h o0 "com/example/cross_town/crosstown/solve/NodeHeap" "heap" "[I" (.ref heap_o0) ∧ Fld Z h o0 "com/example/cross_town/crosstown/solve/NodeHeap" "position" "[I" (.ref position_o0) ∧ Fld Z h o0 "com/example/cross_town/crosstown/solve/NodeHeap" "key" "[D" (.ref key_o0) ∧ Fld Z h o0 "com/example/cross_town/crosstown/solve/NodeHeap" "size" "I" (.int (0 : Int32)) ∧ (∀ z : Int32, (0 ≤ z.toInt ∧ z.toInt < 4) → pv P z = -1 → pv (P.set y0.toNatClampNeg (-1 : Int32)) z = -1) ∧ (pv (P.set y0.toNatClampNeg (-1 : Int32)) y0 = -1) ∧ (0 ≤ y0.toInt ∧ y0.toInt < 4)
set_option maxRecDepth 65536 in
set_option maxHeartbeats 40000000 in
theorem rm71 (l : Launch) (Z : State) (a0 : Array Value) (hw : ∀ d ∈ tables_1, d.before a0 Z = true) (ws : List Jvm.Cond) (o0 : Addr) (heap_o0 : Addr) (position_o0 : Addr) (key_o0 : Addr) (y0 : Int32) (y1 : Int32) (y2 : Int32) (y3 : Int32) (P : List Int32) (K : List UInt64) (h0 : Heap) (n0 : Nat) (Z0 : n0 ≤ h0.size) (E_o0 : Exa Z h0 o0 "com/example/cross_town/crosstown/solve/NodeHeap") (F_o0_heap : Fld Z h0 o0 "com/example/cross_town/crosstown/solve/NodeHeap" "heap" "[I" (.ref heap_o0)) (F_o0_position : Fld Z h0 o0 "com/example/cross_town/crosstown/solve/NodeHeap" "position" "[I" (.ref position_o0)) (F_o0_key : Fld Z h0 o0 "com/example/cross_town/crosstown/solve/NodeHeap" "key" "[D" (.ref key_o0)) (V_heap_o0 : Ary tr Z h0 heap_o0 .int [(.int y0), (.int y1), (.int y2), (.int y3)]) (V_position_o0 : Ary tr Z h0 position_o0 .int (P.map Value.int)) (hl_P : (P.length = 4)) (V_key_o0 : Ary tr Z h0 key_o0 .double (K.map Value.double)) (hl_K : (K.length = 4)) (F_o0_size : Fld Z h0 o0 "com/example/cross_town/crosstown/solve/NodeHeap" "size" "I" (.int (1 : Int32))) (nnk : (NNk K)) (hp : (Hp1 y0 P K)) (g_position_o0 : n0 ≤ position_o0) (ne_o0_position_o0 : o0 ≠ position_o0) (ne_heap_o0_position_o0 : heap_o0 ≠ position_o0) (ne_key_o0_position_o0 : key_o0 ≠ position_o0) (g_o0 : n0 ≤ o0) (ne_heap_o0_o0 : heap_o0 ≠ o0) (ne_key_o0_o0 : key_o0 ≠ o0) :
    MetFree l (⟨"com/example/cross_town/crosstown/solve/NodeHeap", "poll", "()I"⟩ : MethodName) (head1 (Jvm.Cond.code (⟨"com/example/cross_town/crosstown/solve/NodeHeap", "poll", "()I"⟩ : MethodName) prog_33_method_4_code 2 (some .int) :: ws) ({ frames := 0, cells := 0, slots := 0, locals := 0 } : Room)) (fun a U => a = #[(.ref o0)] ∧ Z.Warmed39 U.vm ∧ U.heap = h0) (fun _ _ _ _ _ => True) (fun _ U o U' => ∃ v L, o = .returned v ∧ Q71 Z o0 heap_o0 position_o0 key_o0 y0 y1 y2 y3 P K h0 n0 v U'.heap L ∧ FrameEnd U o U' L ({ frames := 0, cells := 0, slots := 0, locals := 0 } : Room).cells ({ frames := 0, cells := 0, slots := 0, locals := 0 } : Room).slots) := by
  refine MetFree.of_bodySF (plainFor_of_name pn_com_example_cross_town_crosstown_solve_NodeHeap) hisR ?_
  intro p e s m args below meth c s₁ Bd hml0 hP hK
  obtain ⟨rfl, hZ, hh⟩ := hP
  have hx := Bd.exec
  have hby := Bd.bytes
  have hml : c.maxLocals = 2 := hml0
  have hown : s.vm.findClass "com/example/cross_town/crosstown/solve/NodeHeap" = some m.cls := findClass_of_methodNamed Bd.named
  have hnm := (name_of_methodNamed Bd.named Bd.method).1
  have X0 : Stand p l e ({ frames := 0, cells := 0, slots := 0, locals := 0 } : Room) s m #[(.ref o0)] below meth c s₁ [] 0 0 := Stand.of_body Bd
  have eH0 : s₁.heap = h0 := by rw [← hh, Bd.state]; rfl
  have N0 := Fr.nil n0
  have K0 := Keep.refl h0 [position_o0, o0]
  show Gt p.tables e below (fun o U' => ∃ v L, o = .returned v ∧ Q71 Z o0 heap_o0 position_o0 key_o0 y0 y1 y2 y3 P K h0 n0 v U'.heap L ∧ FrameEnd s o U' L ({ frames := 0, cells := 0, slots := 0, locals := 0 } : Room).cells ({ frames := 0, cells := 0, slots := 0, locals := 0 } : Room).slots) _
  refine own_cast (ef71 m o0) ?_
  obtain ⟨rg_y0, pv_y0⟩ := hp
  refine own_aloadN X0 hx hby rfl rfl d7_0 (pc' := 1) rfl ?_
  refine own_getF X0 hx hby hZ hown (host := "") (Or.inl (hw _ (List.mem_of_getElem? (i := 11) rfl))) Via.refl eH0 F_o0_heap d7_1 (pc' := 4) rfl (fun T1 X1 eH1 => ?_)
  refine own_iconst X1 hx hby (v := (0 : Int32)) (by decide) d7_4 (pc' := 5) rfl ?_
  refine own_iaload X1 hx hby hZ eH1 V_heap_o0 (by decide) (v := (.int y0)) rfl d7_5 (pc' := 6) rfl ?_
  refine own_istoreN X1 hx hby (L' := #[.val (.ref o0), .val (.int y0)]) rfl d7_6 (pc' := 7) rfl ?_
  refine own_aloadN X1 hx hby rfl rfl d7_7 (pc' := 8) rfl ?_
  refine own_getF X1 hx hby hZ hown (host := "") (Or.inl (hw _ (List.mem_of_getElem? (i := 13) rfl))) Via.refl eH1 F_o0_position d7_8 (pc' := 11) rfl (fun T2 X2 eH2 => ?_)
  refine own_iloadN X2 hx hby rfl d7_11 (pc' := 12) rfl ?_
  refine own_iconst X2 hx hby (v := (-1 : Int32)) (by decide) d7_12 (pc' := 13) rfl ?_
  refine own_iastore X2 hx hby hZ eH2 V_position_o0 (own_rg0 rg_y0) (n := y0.toNatClampNeg) rfl (by rw [List.length_map]; exact own_rgl rg_y0 hl_P) d7_13 (pc' := 14) rfl (fun T3 h3 X3 eH3 W3 => ?_)
  replace E_o0 := E_o0.wr W3
  replace F_o0_heap := F_o0_heap.other W3 (Or.inl ne_o0_position_o0)
  replace F_o0_position := F_o0_position.other W3 (Or.inl ne_o0_position_o0)
  replace F_o0_key := F_o0_key.other W3 (Or.inl ne_o0_position_o0)
  replace F_o0_size := F_o0_size.other W3 (Or.inl ne_o0_position_o0)
  replace V_heap_o0 := V_heap_o0.other W3 ne_heap_o0_position_o0
  replace V_key_o0 := V_key_o0.other W3 ne_key_o0_position_o0
  have N3 := Fr.snoc X3 N0 g_position_o0
  replace K0 := K0.wr W3 (Or.inl (by simp))
  replace Z0 := Nat.le_trans Z0 (Nat.le_of_eq W3.size.symm)
  have hl4 : (P.set y0.toNatClampNeg (-1 : Int32)).length = 4 := by rw [List.length_set]; exact hl_P
  replace V_position_o0 : Ary tr Z h3 position_o0 .int ((P.set y0.toNatClampNeg (-1 : Int32)).map Value.int) := by rw [List.map_set]; exact V_position_o0.set W3
  refine own_aloadN X3 hx hby rfl rfl d7_14 (pc' := 15) rfl ?_
  refine own_dup X3 hx hby rfl d7_15 (pc' := 16) rfl ?_
  refine own_getF X3 hx hby hZ hown (host := "") (Or.inl (hw _ (List.mem_of_getElem? (i := 26) rfl))) Via.refl eH3 F_o0_size d7_16 (pc' := 19) rfl (fun T5 X5 eH5 => ?_)
  refine own_iconst X5 hx hby (v := (1 : Int32)) (by decide) d7_19 (pc' := 20) rfl ?_
  refine own_isub X5 hx hby (v := (0 : Int32)) (by decide) d7_20 (pc' := 21) rfl ?_
  refine own_putF X5 hx hby hZ hown (host := "") (Or.inl (hw _ (List.mem_of_getElem? (i := 26) rfl))) Via.refl eH5 F_o0_size E_o0 (Or.inl (hw _ (List.mem_of_getElem? (i := 27) rfl))) (hw _ (List.mem_of_getElem? (i := 2) rfl)) (ty := .int) (by decide) rfl rfl d7_21 (pc' := 24) rfl (fun T6 h6 X6 eH6 W6 => ?_)
  replace E_o0 := E_o0.wr W6
  replace F_o0_heap := F_o0_heap.other W6 (Or.inr (slot_ne (Or.inr (hw _ (List.mem_of_getElem? (i := 12) rfl))) (Or.inl (hw _ (List.mem_of_getElem? (i := 27) rfl))) (by decide) (t := (.array .int)) (t' := .int) (by decide) (by decide)))
  replace F_o0_position := F_o0_position.other W6 (Or.inr (slot_ne (Or.inr (hw _ (List.mem_of_getElem? (i := 14) rfl))) (Or.inl (hw _ (List.mem_of_getElem? (i := 27) rfl))) (by decide) (t := (.array .int)) (t' := .int) (by decide) (by decide)))
  replace F_o0_key := F_o0_key.other W6 (Or.inr (slot_ne (Or.inr (hw _ (List.mem_of_getElem? (i := 16) rfl))) (Or.inl (hw _ (List.mem_of_getElem? (i := 27) rfl))) (by decide) (t := (.array .double)) (t' := .int) (by decide) (by decide)))
  replace F_o0_size := F_o0_size.same W6
  replace V_heap_o0 := V_heap_o0.other W6 ne_heap_o0_o0
  replace V_position_o0 := V_position_o0.other W6 (Ne.symm ne_o0_position_o0)
  replace V_key_o0 := V_key_o0.other W6 ne_key_o0_o0
  have N6 := Fr.snoc X6 N3 g_o0
  replace K0 := K0.wr W6 (Or.inl (by simp))
  replace Z0 := Nat.le_trans Z0 (Nat.le_of_eq W6.size.symm)
  refine own_aloadN X6 hx hby rfl rfl d7_24 (pc' := 25) rfl ?_
  refine own_getF X6 hx hby hZ hown (host := "") (Or.inl (hw _ (List.mem_of_getElem? (i := 26) rfl))) Via.refl eH6 F_o0_size d7_25 (pc' := 28) rfl (fun T7 X7 eH7 => ?_)
  refine own_ifT X7 hx hby d7_28 (by decide) (by decide) (pc' := 45) (by decide) ?_
  refine own_iloadN X7 hx hby rfl d7_45 (pc' := 46) rfl ?_
  have HA0 : ∀ z : Int32, (0 ≤ z.toInt ∧ z.toInt < 4) → pv P z = -1 → pv (P.set y0.toNatClampNeg (-1 : Int32)) z = -1 := fun z rgz hz => (by rw [own_pvs hl_P rg_y0 rgz, if_neg (own_pne pv_y0 hz (by decide))]; exact hz)
  have HZ0 : pv (P.set y0.toNatClampNeg (-1 : Int32)) y0 = -1 := (by rw [own_pvs hl_P rg_y0 rg_y0, if_pos rfl]; first | done | decide)
  exact own_retI X7 hx hby Bd.notSynchronized Bd.returns d7_46 (by decide) (by decide) eH7 ⟨rfl, N6, K0, V_position_o0, E_o0, F_o0_heap, F_o0_position, F_o0_key, F_o0_size, HA0, HZ0, rg_y0⟩
theorem ef72 (m : MethodId) (x0 : Addr) : entryFrame m #[(.ref x0)] 2 = mkF m 0 #[.val (.ref x0), .unset] [] := by first | (simp [entryFrame, mkF, argsToLocals, Value.category]; done) | rfl
def Q72 (Z : State) (o0 : Addr) (heap_o0 : Addr) (position_o0 : Addr) (key_o0 : Addr) (y0 : Int32) (y1 : Int32) (y2 : Int32) (y3 : Int32) (P : List Int32) (K : List UInt64) (h0 : Heap) (n0 : Nat) (v : Option Value) (h : Heap) (L : List Loc) : Prop := v = some (.int y0) ∧ Fr n0 L ∧ Keep h0 h [position_o0, o0, heap_o0] ∧ Ary tr Z h position_o0 .int (((P.set y0.toNatClampNeg (-1 : Int32)).set y1.toNatClampNeg (0 : Int32)).map Value.int) ∧ Exa Z h o0 "com/example/cross_town/crosstown/solve/NodeHeap" ∧ Fld Z h o0 "com/example/cross_town/crosstown/solve/NodeHeap" "heap" "[I" (.ref heap_o0) ∧ Fld Z h o0 "com/example/cross_town/crosstown/solve/NodeHeap" "position" "[I" (.ref position_o0) ∧ Fld Z h o0 "com/example/cross_town/crosstown/solve/NodeHeap" "key" "[D" (.ref key_o0) ∧ Fld Z h o0 "com/example/cross_town/crosstown/solve/NodeHeap" "size" "I" (.int (1 : Int32)) ∧ Ary tr Z h heap_o0 .int [(.int y1), (.int y1), (.int y2), (.int y3)] ∧ (Hp1 y1 ((P.set y0.toNatClampNeg (-1 : Int32)).set y1.toNatClampNeg (0 : Int32)) K) ∧ (∀ z : Int32, (0 ≤ z.toInt ∧ z.toInt < 4) → pv P z = -1 → pv ((P.set y0.toNatClampNeg (-1 : Int32)).set y1.toNatClampNeg (0 : Int32)) z = -1) ∧ (pv ((P.set y0.toNatClampNeg (-1 : Int32)).set y1.toNatClampNeg (0 : Int32)) y0 = -1) ∧ (0 ≤ y0.toInt ∧ y0.toInt < 4) ∧ (kv K y0 ≤ kv K y1)
set_option maxRecDepth 65536 in
set_option maxHeartbeats 40000000 in
theorem rm72 (l : Launch) (Z : State) (a0 : Array Value) (hw : ∀ d ∈ tables_1, d.before a0 Z = true) (ws : List Jvm.Cond) (o0 : Addr) (heap_o0 : Addr) (position_o0 : Addr) (key_o0 : Addr) (y0 : Int32) (y1 : Int32) (y2 : Int32) (y3 : Int32) (P : List Int32) (K : List UInt64) (h0 : Heap) (n0 : Nat) (Z0 : n0 ≤ h0.size) (E_o0 : Exa Z h0 o0 "com/example/cross_town/crosstown/solve/NodeHeap") (F_o0_heap : Fld Z h0 o0 "com/example/cross_town/crosstown/solve/NodeHeap" "heap" "[I" (.ref heap_o0)) (F_o0_position : Fld Z h0 o0 "com/example/cross_town/crosstown/solve/NodeHeap" "position" "[I" (.ref position_o0)) (F_o0_key : Fld Z h0 o0 "com/example/cross_town/crosstown/solve/NodeHeap" "key" "[D" (.ref key_o0)) (V_heap_o0 : Ary tr Z h0 heap_o0 .int [(.int y0), (.int y1), (.int y2), (.int y3)]) (V_position_o0 : Ary tr Z h0 position_o0 .int (P.map Value.int)) (hl_P : (P.length = 4)) (V_key_o0 : Ary tr Z h0 key_o0 .double (K.map Value.double)) (hl_K : (K.length = 4)) (F_o0_size : Fld Z h0 o0 "com/example/cross_town/crosstown/solve/NodeHeap" "size" "I" (.int (2 : Int32))) (nnk : (NNk K)) (hp : (Hp2 y0 y1 P K)) (g_position_o0 : n0 ≤ position_o0) (ne_o0_position_o0 : o0 ≠ position_o0) (ne_heap_o0_position_o0 : heap_o0 ≠ position_o0) (ne_key_o0_position_o0 : key_o0 ≠ position_o0) (g_o0 : n0 ≤ o0) (ne_heap_o0_o0 : heap_o0 ≠ o0) (ne_key_o0_o0 : key_o0 ≠ o0) (g_heap_o0 : n0 ≤ heap_o0) (ne_key_o0_heap_o0 : key_o0 ≠ heap_o0) :
    MetFree l (⟨"com/example/cross_town/crosstown/solve/NodeHeap", "poll", "()I"⟩ : MethodName) (head1 (Jvm.Cond.code (⟨"com/example/cross_town/crosstown/solve/NodeHeap", "poll", "()I"⟩ : MethodName) prog_33_method_4_code 2 (some .int) :: ws) ({ frames := 2, cells := 0, slots := 0, locals := 30 } : Room)) (fun a U => a = #[(.ref o0)] ∧ Z.Warmed39 U.vm ∧ U.heap = h0) (fun _ _ _ _ _ => True) (fun _ U o U' => ∃ v L, o = .returned v ∧ Q72 Z o0 heap_o0 position_o0 key_o0 y0 y1 y2 y3 P K h0 n0 v U'.heap L ∧ FrameEnd U o U' L ({ frames := 2, cells := 0, slots := 0, locals := 30 } : Room).cells ({ frames := 2, cells := 0, slots := 0, locals := 30 } : Room).slots) := by
  refine MetFree.of_bodySF (plainFor_of_name pn_com_example_cross_town_crosstown_solve_NodeHeap) hisR ?_
  intro p e s m args below meth c s₁ Bd hml0 hP hK
  obtain ⟨rfl, hZ, hh⟩ := hP
  have hx := Bd.exec
  have hby := Bd.bytes
  have hml : c.maxLocals = 2 := hml0
  have hown : s.vm.findClass "com/example/cross_town/crosstown/solve/NodeHeap" = some m.cls := findClass_of_methodNamed Bd.named
  have hnm := (name_of_methodNamed Bd.named Bd.method).1
  have X0 : Stand p l e ({ frames := 2, cells := 0, slots := 0, locals := 30 } : Room) s m #[(.ref o0)] below meth c s₁ [] 0 0 := Stand.of_body Bd
  have eH0 : s₁.heap = h0 := by rw [← hh, Bd.state]; rfl
  have N0 := Fr.nil n0
  have K0 := Keep.refl h0 [position_o0, o0, heap_o0]
  show Gt p.tables e below (fun o U' => ∃ v L, o = .returned v ∧ Q72 Z o0 heap_o0 position_o0 key_o0 y0 y1 y2 y3 P K h0 n0 v U'.heap L ∧ FrameEnd s o U' L ({ frames := 2, cells := 0, slots := 0, locals := 30 } : Room).cells ({ frames := 2, cells := 0, slots := 0, locals := 30 } : Room).slots) _
  refine own_cast (ef72 m o0) ?_
  obtain ⟨rg_y0, rg_y1, pv_y0, pv_y1, ord1⟩ := hp
  have d_y0_y1 : ¬ y0.toInt = y1.toInt := own_pne pv_y0 pv_y1 (by decide)
  have d_y1_y0 : ¬ y1.toInt = y0.toInt := own_pne pv_y1 pv_y0 (by decide)
  refine own_aloadN X0 hx hby rfl rfl d7_0 (pc' := 1) rfl ?_
  refine own_getF X0 hx hby hZ hown (host := "") (Or.inl (hw _ (List.mem_of_getElem? (i := 11) rfl))) Via.refl eH0 F_o0_heap d7_1 (pc' := 4) rfl (fun T1 X1 eH1 => ?_)
  refine own_iconst X1 hx hby (v := (0 : Int32)) (by decide) d7_4 (pc' := 5) rfl ?_
  refine own_iaload X1 hx hby hZ eH1 V_heap_o0 (by decide) (v := (.int y0)) rfl d7_5 (pc' := 6) rfl ?_
  refine own_istoreN X1 hx hby (L' := #[.val (.ref o0), .val (.int y0)]) rfl d7_6 (pc' := 7) rfl ?_
  refine own_aloadN X1 hx hby rfl rfl d7_7 (pc' := 8) rfl ?_
  refine own_getF X1 hx hby hZ hown (host := "") (Or.inl (hw _ (List.mem_of_getElem? (i := 13) rfl))) Via.refl eH1 F_o0_position d7_8 (pc' := 11) rfl (fun T2 X2 eH2 => ?_)
  refine own_iloadN X2 hx hby rfl d7_11 (pc' := 12) rfl ?_
  refine own_iconst X2 hx hby (v := (-1 : Int32)) (by decide) d7_12 (pc' := 13) rfl ?_
  refine own_iastore X2 hx hby hZ eH2 V_position_o0 (own_rg0 rg_y0) (n := y0.toNatClampNeg) rfl (by rw [List.length_map]; exact own_rgl rg_y0 hl_P) d7_13 (pc' := 14) rfl (fun T3 h3 X3 eH3 W3 => ?_)
  replace E_o0 := E_o0.wr W3
  replace F_o0_heap := F_o0_heap.other W3 (Or.inl ne_o0_position_o0)
  replace F_o0_position := F_o0_position.other W3 (Or.inl ne_o0_position_o0)
  replace F_o0_key := F_o0_key.other W3 (Or.inl ne_o0_position_o0)
  replace F_o0_size := F_o0_size.other W3 (Or.inl ne_o0_position_o0)
  replace V_heap_o0 := V_heap_o0.other W3 ne_heap_o0_position_o0
  replace V_key_o0 := V_key_o0.other W3 ne_key_o0_position_o0
  have N3 := Fr.snoc X3 N0 g_position_o0
  replace K0 := K0.wr W3 (Or.inl (by simp))
  replace Z0 := Nat.le_trans Z0 (Nat.le_of_eq W3.size.symm)
  have hl4 : (P.set y0.toNatClampNeg (-1 : Int32)).length = 4 := by rw [List.length_set]; exact hl_P
  replace V_position_o0 : Ary tr Z h3 position_o0 .int ((P.set y0.toNatClampNeg (-1 : Int32)).map Value.int) := by rw [List.map_set]; exact V_position_o0.set W3
  refine own_aloadN X3 hx hby rfl rfl d7_14 (pc' := 15) rfl ?_
  refine own_dup X3 hx hby rfl d7_15 (pc' := 16) rfl ?_
  refine own_getF X3 hx hby hZ hown (host := "") (Or.inl (hw _ (List.mem_of_getElem? (i := 26) rfl))) Via.refl eH3 F_o0_size d7_16 (pc' := 19) rfl (fun T5 X5 eH5 => ?_)
  refine own_iconst X5 hx hby (v := (1 : Int32)) (by decide) d7_19 (pc' := 20) rfl ?_
  refine own_isub X5 hx hby (v := (1 : Int32)) (by decide) d7_20 (pc' := 21) rfl ?_
  refine own_putF X5 hx hby hZ hown (host := "") (Or.inl (hw _ (List.mem_of_getElem? (i := 26) rfl))) Via.refl eH5 F_o0_size E_o0 (Or.inl (hw _ (List.mem_of_getElem? (i := 27) rfl))) (hw _ (List.mem_of_getElem? (i := 2) rfl)) (ty := .int) (by decide) rfl rfl d7_21 (pc' := 24) rfl (fun T6 h6 X6 eH6 W6 => ?_)
  replace E_o0 := E_o0.wr W6
  replace F_o0_heap := F_o0_heap.other W6 (Or.inr (slot_ne (Or.inr (hw _ (List.mem_of_getElem? (i := 12) rfl))) (Or.inl (hw _ (List.mem_of_getElem? (i := 27) rfl))) (by decide) (t := (.array .int)) (t' := .int) (by decide) (by decide)))
  replace F_o0_position := F_o0_position.other W6 (Or.inr (slot_ne (Or.inr (hw _ (List.mem_of_getElem? (i := 14) rfl))) (Or.inl (hw _ (List.mem_of_getElem? (i := 27) rfl))) (by decide) (t := (.array .int)) (t' := .int) (by decide) (by decide)))
  replace F_o0_key := F_o0_key.other W6 (Or.inr (slot_ne (Or.inr (hw _ (List.mem_of_getElem? (i := 16) rfl))) (Or.inl (hw _ (List.mem_of_getElem? (i := 27) rfl))) (by decide) (t := (.array .double)) (t' := .int) (by decide) (by decide)))
  replace F_o0_size := F_o0_size.same W6
  replace V_heap_o0 := V_heap_o0.other W6 ne_heap_o0_o0
  replace V_position_o0 := V_position_o0.other W6 (Ne.symm ne_o0_position_o0)
  replace V_key_o0 := V_key_o0.other W6 ne_key_o0_o0
  have N6 := Fr.snoc X6 N3 g_o0
  replace K0 := K0.wr W6 (Or.inl (by simp))
  replace Z0 := Nat.le_trans Z0 (Nat.le_of_eq W6.size.symm)
  refine own_aloadN X6 hx hby rfl rfl d7_24 (pc' := 25) rfl ?_
  refine own_getF X6 hx hby hZ hown (host := "") (Or.inl (hw _ (List.mem_of_getElem? (i := 26) rfl))) Via.refl eH6 F_o0_size d7_25 (pc' := 28) rfl (fun T7 X7 eH7 => ?_)
  refine own_ifF X7 hx hby d7_28 (by decide) (pc' := 31) rfl ?_
  refine own_aloadN X7 hx hby rfl rfl d7_31 (pc' := 32) rfl ?_
  refine own_iconst X7 hx hby (v := (0 : Int32)) (by decide) d7_32 (pc' := 33) rfl ?_
  refine own_aloadN X7 hx hby rfl rfl d7_33 (pc' := 34) rfl ?_
  refine own_getF X7 hx hby hZ hown (host := "") (Or.inl (hw _ (List.mem_of_getElem? (i := 11) rfl))) Via.refl eH7 F_o0_heap d7_34 (pc' := 37) rfl (fun T8 X8 eH8 => ?_)
  refine own_aloadN X8 hx hby rfl rfl d7_37 (pc' := 38) rfl ?_
  refine own_getF X8 hx hby hZ hown (host := "") (Or.inl (hw _ (List.mem_of_getElem? (i := 26) rfl))) Via.refl eH8 F_o0_size d7_38 (pc' := 41) rfl (fun T9 X9 eH9 => ?_)
  refine own_iaload X9 hx hby hZ eH9 V_heap_o0 (by decide) (v := (.int y1)) rfl d7_41 (pc' := 42) rfl ?_
  refine own_private X9 hx hby hZ (y := (⟨"com/example/cross_town/crosstown/solve/NodeHeap", "siftDown", "(II)V"⟩ : MethodName)) (rest := []) hown (hw _ (List.mem_of_getElem? (i := 42) rfl)) (hw _ (List.mem_of_getElem? (i := 43) rfl)) (hw _ (List.mem_of_getElem? (i := 2) rfl)) (hw _ (List.mem_of_getElem? (i := 44) rfl)) (hw _ (List.mem_of_getElem? (i := 45) rfl)) (hw _ (List.mem_of_getElem? (i := 3) rfl)) (by decide) (rm81 l Z a0 hw [] o0 y1 heap_o0 position_o0 key_o0 y0 y1 y2 y3 (P.set y0.toNatClampNeg (-1 : Int32)) K h6 n0 Z0 E_o0 F_o0_heap F_o0_position F_o0_key V_heap_o0 V_position_o0 (by first | assumption | rfl | (simp only [List.length_set]; first | assumption | rfl)) V_key_o0 (by first | assumption | rfl | (simp only [List.length_set]; first | assumption | rfl)) F_o0_size rg_y1 nnk (by rw [own_pvs hl_P rg_y0 rg_y1, if_neg d_y0_y1]; exact pv_y1) g_heap_o0 (Ne.symm ne_heap_o0_o0) (Ne.symm ne_heap_o0_position_o0) g_position_o0 ne_o0_position_o0 ne_key_o0_position_o0 ne_key_o0_heap_o0) eH9 (by rw [hml]; rfl) (a := o0) E_o0 (argsL := [(.int (0 : Int32)), (.int y1)]) rfl (lenOf pd_1 rfl) rfl d7_42 (pc' := 45) rfl (by decide) (W := 0) (Nat.le_of_eq rfl) (by decide) (by decide) (by decide) (fun T10 h10 Lc10 v10r X10 eH10 hQ10 => ?_)
  obtain ⟨rfl, Nq10, Kq10, gq10_0, gq10_1, gq10_2, gq10_3, gq10_4⟩ := hQ10
  have N10 := Fr.app N6 Nq10
  replace E_o0 := E_o0.keep Kq10
  replace F_o0_heap := F_o0_heap.keep Kq10 (ninS ne_o0_position_o0 (ninS (Ne.symm ne_heap_o0_o0) nin0))
  replace F_o0_position := F_o0_position.keep Kq10 (ninS ne_o0_position_o0 (ninS (Ne.symm ne_heap_o0_o0) nin0))
  replace F_o0_key := F_o0_key.keep Kq10 (ninS ne_o0_position_o0 (ninS (Ne.symm ne_heap_o0_o0) nin0))
  replace F_o0_size := F_o0_size.keep Kq10 (ninS ne_o0_position_o0 (ninS (Ne.symm ne_heap_o0_o0) nin0))
  replace V_key_o0 := V_key_o0.keep Kq10 (ninS ne_key_o0_position_o0 (ninS ne_key_o0_heap_o0 nin0))
  replace K0 := K0.trans Kq10 (allS (Or.inl (by simp)) (allS (Or.inl (by simp)) all0))
  have hl11 : ((P.set y0.toNatClampNeg (-1 : Int32)).set y1.toNatClampNeg (0 : Int32)).length = 4 := by (repeat' split) <;> (simp only [List.length_set]; first | assumption | rfl)
  have V_position_o0 := gq10_0
  have V_heap_o0 := gq10_1
  have hp_10 : Hp1 y1 ((P.set y0.toNatClampNeg (-1 : Int32)).set y1.toNatClampNeg (0 : Int32)) K := gq10_2
  have ab_10 : ∀ z : Int32, (0 ≤ z.toInt ∧ z.toInt < 4) → pv (P.set y0.toNatClampNeg (-1 : Int32)) z = -1 → pv ((P.set y0.toNatClampNeg (-1 : Int32)).set y1.toNatClampNeg (0 : Int32)) z = -1 := gq10_3
  have lb_10 : ∀ m : Int, m ≤ kv K y1 → m ≤ kv K y1 := gq10_4
  replace Z0 := Nat.le_trans Z0 Kq10.1
  refine own_iloadN X10 hx hby rfl d7_45 (pc' := 46) rfl ?_
  have HA0 : ∀ z : Int32, (0 ≤ z.toInt ∧ z.toInt < 4) → pv P z = -1 → pv (P.set y0.toNatClampNeg (-1 : Int32)) z = -1 := fun z rgz hz => (by rw [own_pvs hl_P rg_y0 rgz, if_neg (own_pne pv_y0 hz (by decide))]; exact hz)
  have HZ0 : pv (P.set y0.toNatClampNeg (-1 : Int32)) y0 = -1 := (by rw [own_pvs hl_P rg_y0 rg_y0, if_pos rfl]; first | done | decide)
  exact own_retI X10 hx hby Bd.notSynchronized Bd.returns d7_46 (by decide) (by decide) eH10 ⟨rfl, N10, K0, V_position_o0, E_o0, F_o0_heap, F_o0_position, F_o0_key, F_o0_size, V_heap_o0, hp_10, (fun z rgz hz => ab_10 z rgz (HA0 z rgz hz)), (ab_10 y0 rg_y0 HZ0), rg_y0, (lb_10 (kv K y0) (by omega))⟩
theorem ef73 (m : MethodId) (x0 : Addr) : entryFrame m #[(.ref x0)] 2 = mkF m 0 #[.val (.ref x0), .unset] [] := by first | (simp [entryFrame, mkF, argsToLocals, Value.category]; done) | rfl
def Q73 (Z : State) (o0 : Addr) (heap_o0 : Addr) (position_o0 : Addr) (key_o0 : Addr) (y0 : Int32) (y1 : Int32) (y2 : Int32) (y3 : Int32) (P : List Int32) (K : List UInt64) (h0 : Heap) (n0 : Nat) (v : Option Value) (h : Heap) (L : List Loc) : Prop := v = some (.int y0) ∧ Fr n0 L ∧ Keep h0 h [position_o0, o0, heap_o0] ∧ Ary tr Z h position_o0 .int ((if dle (K.getD y2.toNatClampNeg 0) (K.getD y1.toNatClampNeg 0) then ((P.set y0.toNatClampNeg (-1 : Int32)).set y2.toNatClampNeg (0 : Int32)) else (((P.set y0.toNatClampNeg (-1 : Int32)).set y1.toNatClampNeg (0 : Int32)).set y2.toNatClampNeg (1 : Int32))).map Value.int) ∧ Exa Z h o0 "com/example/cross_town/crosstown/solve/NodeHeap" ∧ Fld Z h o0 "com/example/cross_town/crosstown/solve/NodeHeap" "heap" "[I" (.ref heap_o0) ∧ Fld Z h o0 "com/example/cross_town/crosstown/solve/NodeHeap" "position" "[I" (.ref position_o0) ∧ Fld Z h o0 "com/example/cross_town/crosstown/solve/NodeHeap" "key" "[D" (.ref key_o0) ∧ Fld Z h o0 "com/example/cross_town/crosstown/solve/NodeHeap" "size" "I" (.int (2 : Int32)) ∧ Ary tr Z h heap_o0 .int [(.int (if dle (K.getD y2.toNatClampNeg 0) (K.getD y1.toNatClampNeg 0) then y2 else y1)), (.int (if dle (K.getD y2.toNatClampNeg 0) (K.getD y1.toNatClampNeg 0) then y1 else y2)), (.int y2), (.int y3)] ∧ (Hp2 (if dle (K.getD y2.toNatClampNeg 0) (K.getD y1.toNatClampNeg 0) then y2 else y1) (if dle (K.getD y2.toNatClampNeg 0) (K.getD y1.toNatClampNeg 0) then y1 else y2) (if dle (K.getD y2.toNatClampNeg 0) (K.getD y1.toNatClampNeg 0) then ((P.set y0.toNatClampNeg (-1 : Int32)).set y2.toNatClampNeg (0 : Int32)) else (((P.set y0.toNatClampNeg (-1 : Int32)).set y1.toNatClampNeg (0 : Int32)).set y2.toNatClampNeg (1 : Int32))) K) ∧ (∀ z : Int32, (0 ≤ z.toInt ∧ z.toInt < 4) → pv P z = -1 → pv (if dle (K.getD y2.toNatClampNeg 0) (K.getD y1.toNatClampNeg 0) then ((P.set y0.toNatClampNeg (-1 : Int32)).set y2.toNatClampNeg (0 : Int32)) else (((P.set y0.toNatClampNeg (-1 : Int32)).set y1.toNatClampNeg (0 : Int32)).set y2.toNatClampNeg (1 : Int32))) z = -1) ∧ (pv (if dle (K.getD y2.toNatClampNeg 0) (K.getD y1.toNatClampNeg 0) then ((P.set y0.toNatClampNeg (-1 : Int32)).set y2.toNatClampNeg (0 : Int32)) else (((P.set y0.toNatClampNeg (-1 : Int32)).set y1.toNatClampNeg (0 : Int32)).set y2.toNatClampNeg (1 : Int32))) y0 = -1) ∧ (0 ≤ y0.toInt ∧ y0.toInt < 4) ∧ (kv K y0 ≤ kv K (if dle (K.getD y2.toNatClampNeg 0) (K.getD y1.toNatClampNeg 0) then y2 else y1) ∧ kv K y0 ≤ kv K (if dle (K.getD y2.toNatClampNeg 0) (K.getD y1.toNatClampNeg 0) then y1 else y2))
set_option maxRecDepth 65536 in
set_option maxHeartbeats 40000000 in
theorem rm73 (l : Launch) (Z : State) (a0 : Array Value) (hw : ∀ d ∈ tables_1, d.before a0 Z = true) (ws : List Jvm.Cond) (o0 : Addr) (heap_o0 : Addr) (position_o0 : Addr) (key_o0 : Addr) (y0 : Int32) (y1 : Int32) (y2 : Int32) (y3 : Int32) (P : List Int32) (K : List UInt64) (h0 : Heap) (n0 : Nat) (Z0 : n0 ≤ h0.size) (E_o0 : Exa Z h0 o0 "com/example/cross_town/crosstown/solve/NodeHeap") (F_o0_heap : Fld Z h0 o0 "com/example/cross_town/crosstown/solve/NodeHeap" "heap" "[I" (.ref heap_o0)) (F_o0_position : Fld Z h0 o0 "com/example/cross_town/crosstown/solve/NodeHeap" "position" "[I" (.ref position_o0)) (F_o0_key : Fld Z h0 o0 "com/example/cross_town/crosstown/solve/NodeHeap" "key" "[D" (.ref key_o0)) (V_heap_o0 : Ary tr Z h0 heap_o0 .int [(.int y0), (.int y1), (.int y2), (.int y3)]) (V_position_o0 : Ary tr Z h0 position_o0 .int (P.map Value.int)) (hl_P : (P.length = 4)) (V_key_o0 : Ary tr Z h0 key_o0 .double (K.map Value.double)) (hl_K : (K.length = 4)) (F_o0_size : Fld Z h0 o0 "com/example/cross_town/crosstown/solve/NodeHeap" "size" "I" (.int (3 : Int32))) (nnk : (NNk K)) (hp : (Hp3 y0 y1 y2 P K)) (g_position_o0 : n0 ≤ position_o0) (ne_o0_position_o0 : o0 ≠ position_o0) (ne_heap_o0_position_o0 : heap_o0 ≠ position_o0) (ne_key_o0_position_o0 : key_o0 ≠ position_o0) (g_o0 : n0 ≤ o0) (ne_heap_o0_o0 : heap_o0 ≠ o0) (ne_key_o0_o0 : key_o0 ≠ o0) (g_heap_o0 : n0 ≤ heap_o0) (ne_key_o0_heap_o0 : key_o0 ≠ heap_o0) :
    MetFree l (⟨"com/example/cross_town/crosstown/solve/NodeHeap", "poll", "()I"⟩ : MethodName) (head1 (Jvm.Cond.code (⟨"com/example/cross_town/crosstown/solve/NodeHeap", "poll", "()I"⟩ : MethodName) prog_33_method_4_code 2 (some .int) :: ws) ({ frames := 2, cells := 0, slots := 0, locals := 30 } : Room)) (fun a U => a = #[(.ref o0)] ∧ Z.Warmed39 U.vm ∧ U.heap = h0) (fun _ _ _ _ _ => True) (fun _ U o U' => ∃ v L, o = .returned v ∧ Q73 Z o0 heap_o0 position_o0 key_o0 y0 y1 y2 y3 P K h0 n0 v U'.heap L ∧ FrameEnd U o U' L ({ frames := 2, cells := 0, slots := 0, locals := 30 } : Room).cells ({ frames := 2, cells := 0, slots := 0, locals := 30 } : Room).slots) := by
  refine MetFree.of_bodySF (plainFor_of_name pn_com_example_cross_town_crosstown_solve_NodeHeap) hisR ?_
  intro p e s m args below meth c s₁ Bd hml0 hP hK
  obtain ⟨rfl, hZ, hh⟩ := hP
  have hx := Bd.exec
  have hby := Bd.bytes
  have hml : c.maxLocals = 2 := hml0
  have hown : s.vm.findClass "com/example/cross_town/crosstown/solve/NodeHeap" = some m.cls := findClass_of_methodNamed Bd.named
  have hnm := (name_of_methodNamed Bd.named Bd.method).1
  have X0 : Stand p l e ({ frames := 2, cells := 0, slots := 0, locals := 30 } : Room) s m #[(.ref o0)] below meth c s₁ [] 0 0 := Stand.of_body Bd
  have eH0 : s₁.heap = h0 := by rw [← hh, Bd.state]; rfl
  have N0 := Fr.nil n0
  have K0 := Keep.refl h0 [position_o0, o0, heap_o0]
  show Gt p.tables e below (fun o U' => ∃ v L, o = .returned v ∧ Q73 Z o0 heap_o0 position_o0 key_o0 y0 y1 y2 y3 P K h0 n0 v U'.heap L ∧ FrameEnd s o U' L ({ frames := 2, cells := 0, slots := 0, locals := 30 } : Room).cells ({ frames := 2, cells := 0, slots := 0, locals := 30 } : Room).slots) _
  refine own_cast (ef73 m o0) ?_
  obtain ⟨rg_y0, rg_y1, rg_y2, pv_y0, pv_y1, pv_y2, ord1, ord2⟩ := hp
  have d_y0_y1 : ¬ y0.toInt = y1.toInt := own_pne pv_y0 pv_y1 (by decide)
  have d_y0_y2 : ¬ y0.toInt = y2.toInt := own_pne pv_y0 pv_y2 (by decide)
  have d_y1_y0 : ¬ y1.toInt = y0.toInt := own_pne pv_y1 pv_y0 (by decide)
  have d_y1_y2 : ¬ y1.toInt = y2.toInt := own_pne pv_y1 pv_y2 (by decide)
  have d_y2_y0 : ¬ y2.toInt = y0.toInt := own_pne pv_y2 pv_y0 (by decide)
  have d_y2_y1 : ¬ y2.toInt = y1.toInt := own_pne pv_y2 pv_y1 (by decide)
  refine own_aloadN X0 hx hby rfl rfl d7_0 (pc' := 1) rfl ?_
  refine own_getF X0 hx hby hZ hown (host := "") (Or.inl (hw _ (List.mem_of_getElem? (i := 11) rfl))) Via.refl eH0 F_o0_heap d7_1 (pc' := 4) rfl (fun T1 X1 eH1 => ?_)
  refine own_iconst X1 hx hby (v := (0 : Int32)) (by decide) d7_4 (pc' := 5) rfl ?_
  refine own_iaload X1 hx hby hZ eH1 V_heap_o0 (by decide) (v := (.int y0)) rfl d7_5 (pc' := 6) rfl ?_
  refine own_istoreN X1 hx hby (L' := #[.val (.ref o0), .val (.int y0)]) rfl d7_6 (pc' := 7) rfl ?_
  refine own_aloadN X1 hx hby rfl rfl d7_7 (pc' := 8) rfl ?_
  refine own_getF X1 hx hby hZ hown (host := "") (Or.inl (hw _ (List.mem_of_getElem? (i := 13) rfl))) Via.refl eH1 F_o0_position d7_8 (pc' := 11) rfl (fun T2 X2 eH2 => ?_)
  refine own_iloadN X2 hx hby rfl d7_11 (pc' := 12) rfl ?_
  refine own_iconst X2 hx hby (v := (-1 : Int32)) (by decide) d7_12 (pc' := 13) rfl ?_
  refine own_iastore X2 hx hby hZ eH2 V_position_o0 (own_rg0 rg_y0) (n := y0.toNatClampNeg) rfl (by rw [List.length_map]; exact own_rgl rg_y0 hl_P) d7_13 (pc' := 14) rfl (fun T3 h3 X3 eH3 W3 => ?_)
  replace E_o0 := E_o0.wr W3
  replace F_o0_heap := F_o0_heap.other W3 (Or.inl ne_o0_position_o0)
  replace F_o0_position := F_o0_position.other W3 (Or.inl ne_o0_position_o0)
  replace F_o0_key := F_o0_key.other W3 (Or.inl ne_o0_position_o0)
  replace F_o0_size := F_o0_size.other W3 (Or.inl ne_o0_position_o0)
  replace V_heap_o0 := V_heap_o0.other W3 ne_heap_o0_position_o0
  replace V_key_o0 := V_key_o0.other W3 ne_key_o0_position_o0
  have N3 := Fr.snoc X3 N0 g_position_o0
  replace K0 := K0.wr W3 (Or.inl (by simp))
  replace Z0 := Nat.le_trans Z0 (Nat.le_of_eq W3.size.symm)
  have hl4 : (P.set y0.toNatClampNeg (-1 : Int32)).length = 4 := by rw [List.length_set]; exact hl_P
  replace V_position_o0 : Ary tr Z h3 position_o0 .int ((P.set y0.toNatClampNeg (-1 : Int32)).map Value.int) := by rw [List.map_set]; exact V_position_o0.set W3
  refine own_aloadN X3 hx hby rfl rfl d7_14 (pc' := 15) rfl ?_
  refine own_dup X3 hx hby rfl d7_15 (pc' := 16) rfl ?_
  refine own_getF X3 hx hby hZ hown (host := "") (Or.inl (hw _ (List.mem_of_getElem? (i := 26) rfl))) Via.refl eH3 F_o0_size d7_16 (pc' := 19) rfl (fun T5 X5 eH5 => ?_)
  refine own_iconst X5 hx hby (v := (1 : Int32)) (by decide) d7_19 (pc' := 20) rfl ?_
  refine own_isub X5 hx hby (v := (2 : Int32)) (by decide) d7_20 (pc' := 21) rfl ?_
  refine own_putF X5 hx hby hZ hown (host := "") (Or.inl (hw _ (List.mem_of_getElem? (i := 26) rfl))) Via.refl eH5 F_o0_size E_o0 (Or.inl (hw _ (List.mem_of_getElem? (i := 27) rfl))) (hw _ (List.mem_of_getElem? (i := 2) rfl)) (ty := .int) (by decide) rfl rfl d7_21 (pc' := 24) rfl (fun T6 h6 X6 eH6 W6 => ?_)
  replace E_o0 := E_o0.wr W6
  replace F_o0_heap := F_o0_heap.other W6 (Or.inr (slot_ne (Or.inr (hw _ (List.mem_of_getElem? (i := 12) rfl))) (Or.inl (hw _ (List.mem_of_getElem? (i := 27) rfl))) (by decide) (t := (.array .int)) (t' := .int) (by decide) (by decide)))
  replace F_o0_position := F_o0_position.other W6 (Or.inr (slot_ne (Or.inr (hw _ (List.mem_of_getElem? (i := 14) rfl))) (Or.inl (hw _ (List.mem_of_getElem? (i := 27) rfl))) (by decide) (t := (.array .int)) (t' := .int) (by decide) (by decide)))
  replace F_o0_key := F_o0_key.other W6 (Or.inr (slot_ne (Or.inr (hw _ (List.mem_of_getElem? (i := 16) rfl))) (Or.inl (hw _ (List.mem_of_getElem? (i := 27) rfl))) (by decide) (t := (.array .double)) (t' := .int) (by decide) (by decide)))
  replace F_o0_size := F_o0_size.same W6
  replace V_heap_o0 := V_heap_o0.other W6 ne_heap_o0_o0
  replace V_position_o0 := V_position_o0.other W6 (Ne.symm ne_o0_position_o0)
  replace V_key_o0 := V_key_o0.other W6 ne_key_o0_o0
  have N6 := Fr.snoc X6 N3 g_o0
  replace K0 := K0.wr W6 (Or.inl (by simp))
  replace Z0 := Nat.le_trans Z0 (Nat.le_of_eq W6.size.symm)
  refine own_aloadN X6 hx hby rfl rfl d7_24 (pc' := 25) rfl ?_
  refine own_getF X6 hx hby hZ hown (host := "") (Or.inl (hw _ (List.mem_of_getElem? (i := 26) rfl))) Via.refl eH6 F_o0_size d7_25 (pc' := 28) rfl (fun T7 X7 eH7 => ?_)
  refine own_ifF X7 hx hby d7_28 (by decide) (pc' := 31) rfl ?_
  refine own_aloadN X7 hx hby rfl rfl d7_31 (pc' := 32) rfl ?_
  refine own_iconst X7 hx hby (v := (0 : Int32)) (by decide) d7_32 (pc' := 33) rfl ?_
  refine own_aloadN X7 hx hby rfl rfl d7_33 (pc' := 34) rfl ?_
  refine own_getF X7 hx hby hZ hown (host := "") (Or.inl (hw _ (List.mem_of_getElem? (i := 11) rfl))) Via.refl eH7 F_o0_heap d7_34 (pc' := 37) rfl (fun T8 X8 eH8 => ?_)
  refine own_aloadN X8 hx hby rfl rfl d7_37 (pc' := 38) rfl ?_
  refine own_getF X8 hx hby hZ hown (host := "") (Or.inl (hw _ (List.mem_of_getElem? (i := 26) rfl))) Via.refl eH8 F_o0_size d7_38 (pc' := 41) rfl (fun T9 X9 eH9 => ?_)
  refine own_iaload X9 hx hby hZ eH9 V_heap_o0 (by decide) (v := (.int y2)) rfl d7_41 (pc' := 42) rfl ?_
  refine own_private X9 hx hby hZ (y := (⟨"com/example/cross_town/crosstown/solve/NodeHeap", "siftDown", "(II)V"⟩ : MethodName)) (rest := []) hown (hw _ (List.mem_of_getElem? (i := 42) rfl)) (hw _ (List.mem_of_getElem? (i := 43) rfl)) (hw _ (List.mem_of_getElem? (i := 2) rfl)) (hw _ (List.mem_of_getElem? (i := 44) rfl)) (hw _ (List.mem_of_getElem? (i := 45) rfl)) (hw _ (List.mem_of_getElem? (i := 3) rfl)) (by decide) (rm82 l Z a0 hw [] o0 y2 heap_o0 position_o0 key_o0 y0 y1 y2 y3 (P.set y0.toNatClampNeg (-1 : Int32)) K h6 n0 Z0 E_o0 F_o0_heap F_o0_position F_o0_key V_heap_o0 V_position_o0 (by first | assumption | rfl | (simp only [List.length_set]; first | assumption | rfl)) V_key_o0 (by first | assumption | rfl | (simp only [List.length_set]; first | assumption | rfl)) F_o0_size rg_y2 nnk (by rw [own_pvs hl_P rg_y0 rg_y2, if_neg d_y0_y2]; exact pv_y2) rg_y1 (by rw [own_pvs hl_P rg_y0 rg_y1, if_neg d_y0_y1]; exact pv_y1) g_heap_o0 (Ne.symm ne_heap_o0_o0) (Ne.symm ne_heap_o0_position_o0) g_position_o0 ne_o0_position_o0 ne_key_o0_position_o0 ne_key_o0_heap_o0) eH9 (by rw [hml]; rfl) (a := o0) E_o0 (argsL := [(.int (0 : Int32)), (.int y2)]) rfl (lenOf pd_1 rfl) rfl d7_42 (pc' := 45) rfl (by decide) (W := 0) (Nat.le_of_eq rfl) (by decide) (by decide) (by decide) (fun T10 h10 Lc10 v10r X10 eH10 hQ10 => ?_)
  obtain ⟨rfl, Nq10, Kq10, gq10_0, gq10_1, gq10_2, gq10_3, gq10_4⟩ := hQ10
  have N10 := Fr.app N6 Nq10
  replace E_o0 := E_o0.keep Kq10
  replace F_o0_heap := F_o0_heap.keep Kq10 (ninS ne_o0_position_o0 (ninS (Ne.symm ne_heap_o0_o0) nin0))
  replace F_o0_position := F_o0_position.keep Kq10 (ninS ne_o0_position_o0 (ninS (Ne.symm ne_heap_o0_o0) nin0))
  replace F_o0_key := F_o0_key.keep Kq10 (ninS ne_o0_position_o0 (ninS (Ne.symm ne_heap_o0_o0) nin0))
  replace F_o0_size := F_o0_size.keep Kq10 (ninS ne_o0_position_o0 (ninS (Ne.symm ne_heap_o0_o0) nin0))
  replace V_key_o0 := V_key_o0.keep Kq10 (ninS ne_key_o0_position_o0 (ninS ne_key_o0_heap_o0 nin0))
  replace K0 := K0.trans Kq10 (allS (Or.inl (by simp)) (allS (Or.inl (by simp)) all0))
  have hl11 : (if dle (K.getD y2.toNatClampNeg 0) (K.getD y1.toNatClampNeg 0) then ((P.set y0.toNatClampNeg (-1 : Int32)).set y2.toNatClampNeg (0 : Int32)) else (((P.set y0.toNatClampNeg (-1 : Int32)).set y1.toNatClampNeg (0 : Int32)).set y2.toNatClampNeg (1 : Int32))).length = 4 := by (repeat' split) <;> (simp only [List.length_set]; first | assumption | rfl)
  have V_position_o0 := gq10_0
  have V_heap_o0 := gq10_1
  have hp_10 : Hp2 (if dle (K.getD y2.toNatClampNeg 0) (K.getD y1.toNatClampNeg 0) then y2 else y1) (if dle (K.getD y2.toNatClampNeg 0) (K.getD y1.toNatClampNeg 0) then y1 else y2) (if dle (K.getD y2.toNatClampNeg 0) (K.getD y1.toNatClampNeg 0) then ((P.set y0.toNatClampNeg (-1 : Int32)).set y2.toNatClampNeg (0 : Int32)) else (((P.set y0.toNatClampNeg (-1 : Int32)).set y1.toNatClampNeg (0 : Int32)).set y2.toNatClampNeg (1 : Int32))) K := gq10_2
  have ab_10 : ∀ z : Int32, (0 ≤ z.toInt ∧ z.toInt < 4) → pv (P.set y0.toNatClampNeg (-1 : Int32)) z = -1 → pv (if dle (K.getD y2.toNatClampNeg 0) (K.getD y1.toNatClampNeg 0) then ((P.set y0.toNatClampNeg (-1 : Int32)).set y2.toNatClampNeg (0 : Int32)) else (((P.set y0.toNatClampNeg (-1 : Int32)).set y1.toNatClampNeg (0 : Int32)).set y2.toNatClampNeg (1 : Int32))) z = -1 := gq10_3
  have lb_10 : ∀ m : Int, m ≤ kv K y2 → m ≤ kv K y1 → m ≤ kv K (if dle (K.getD y2.toNatClampNeg 0) (K.getD y1.toNatClampNeg 0) then y2 else y1) ∧ m ≤ kv K (if dle (K.getD y2.toNatClampNeg 0) (K.getD y1.toNatClampNeg 0) then y1 else y2) := gq10_4
  replace Z0 := Nat.le_trans Z0 Kq10.1
  refine own_iloadN X10 hx hby rfl d7_45 (pc' := 46) rfl ?_
  have HA0 : ∀ z : Int32, (0 ≤ z.toInt ∧ z.toInt < 4) → pv P z = -1 → pv (P.set y0.toNatClampNeg (-1 : Int32)) z = -1 := fun z rgz hz => (by rw [own_pvs hl_P rg_y0 rgz, if_neg (own_pne pv_y0 hz (by decide))]; exact hz)
  have HZ0 : pv (P.set y0.toNatClampNeg (-1 : Int32)) y0 = -1 := (by rw [own_pvs hl_P rg_y0 rg_y0, if_pos rfl]; first | done | decide)
  exact own_retI X10 hx hby Bd.notSynchronized Bd.returns d7_46 (by decide) (by decide) eH10 ⟨rfl, N10, K0, V_position_o0, E_o0, F_o0_heap, F_o0_position, F_o0_key, F_o0_size, V_heap_o0, hp_10, (fun z rgz hz => ab_10 z rgz (HA0 z rgz hz)), (ab_10 y0 rg_y0 HZ0), rg_y0, (lb_10 (kv K y0) (by omega) (by omega))⟩
theorem ef74 (m : MethodId) (x0 : Addr) : entryFrame m #[(.ref x0)] 2 = mkF m 0 #[.val (.ref x0), .unset] [] := by first | (simp [entryFrame, mkF, argsToLocals, Value.category]; done) | rfl
def Q74 (Z : State) (o0 : Addr) (heap_o0 : Addr) (position_o0 : Addr) (key_o0 : Addr) (y0 : Int32) (y1 : Int32) (y2 : Int32) (y3 : Int32) (P : List Int32) (K : List UInt64) (h0 : Heap) (n0 : Nat) (v : Option Value) (h : Heap) (L : List Loc) : Prop := v = some (.int y0) ∧ Fr n0 L ∧ Keep h0 h [position_o0, o0, heap_o0] ∧ Ary tr Z h position_o0 .int ((if dlt (K.getD y2.toNatClampNeg 0) (K.getD y1.toNatClampNeg 0) then (if dle (K.getD y3.toNatClampNeg 0) (K.getD y2.toNatClampNeg 0) then ((P.set y0.toNatClampNeg (-1 : Int32)).set y3.toNatClampNeg (0 : Int32)) else (((P.set y0.toNatClampNeg (-1 : Int32)).set y2.toNatClampNeg (0 : Int32)).set y3.toNatClampNeg (2 : Int32))) else (if dle (K.getD y3.toNatClampNeg 0) (K.getD y1.toNatClampNeg 0) then ((P.set y0.toNatClampNeg (-1 : Int32)).set y3.toNatClampNeg (0 : Int32)) else (((P.set y0.toNatClampNeg (-1 : Int32)).set y1.toNatClampNeg (0 : Int32)).set y3.toNatClampNeg (1 : Int32)))).map Value.int) ∧ Exa Z h o0 "com/example/cross_town/crosstown/solve/NodeHeap" ∧ Fld Z h o0 "com/example/cross_town/crosstown/solve/NodeHeap" "heap" "[I" (.ref heap_o0) ∧ Fld Z h o0 "com/example/cross_town/crosstown/solve/NodeHeap" "position" "[I" (.ref position_o0) ∧ Fld Z h o0 "com/example/cross_town/crosstown/solve/NodeHeap" "key" "[D" (.ref key_o0) ∧ Fld Z h o0 "com/example/cross_town/crosstown/solve/NodeHeap" "size" "I" (.int (3 : Int32)) ∧ Ary tr Z h heap_o0 .int [(.int (if dlt (K.getD y2.toNatClampNeg 0) (K.getD y1.toNatClampNeg 0) then (if dle (K.getD y3.toNatClampNeg 0) (K.getD y2.toNatClampNeg 0) then y3 else y2) else (if dle (K.getD y3.toNatClampNeg 0) (K.getD y1.toNatClampNeg 0) then y3 else y1))), (.int (if dlt (K.getD y2.toNatClampNeg 0) (K.getD y1.toNatClampNeg 0) then (if dle (K.getD y3.toNatClampNeg 0) (K.getD y2.toNatClampNeg 0) then y1 else y1) else (if dle (K.getD y3.toNatClampNeg 0) (K.getD y1.toNatClampNeg 0) then y1 else y3))), (.int (if dlt (K.getD y2.toNatClampNeg 0) (K.getD y1.toNatClampNeg 0) then (if dle (K.getD y3.toNatClampNeg 0) (K.getD y2.toNatClampNeg 0) then y2 else y3) else (if dle (K.getD y3.toNatClampNeg 0) (K.getD y1.toNatClampNeg 0) then y2 else y2))), (.int y3)] ∧ (Hp3 (if dlt (K.getD y2.toNatClampNeg 0) (K.getD y1.toNatClampNeg 0) then (if dle (K.getD y3.toNatClampNeg 0) (K.getD y2.toNatClampNeg 0) then y3 else y2) else (if dle (K.getD y3.toNatClampNeg 0) (K.getD y1.toNatClampNeg 0) then y3 else y1)) (if dlt (K.getD y2.toNatClampNeg 0) (K.getD y1.toNatClampNeg 0) then (if dle (K.getD y3.toNatClampNeg 0) (K.getD y2.toNatClampNeg 0) then y1 else y1) else (if dle (K.getD y3.toNatClampNeg 0) (K.getD y1.toNatClampNeg 0) then y1 else y3)) (if dlt (K.getD y2.toNatClampNeg 0) (K.getD y1.toNatClampNeg 0) then (if dle (K.getD y3.toNatClampNeg 0) (K.getD y2.toNatClampNeg 0) then y2 else y3) else (if dle (K.getD y3.toNatClampNeg 0) (K.getD y1.toNatClampNeg 0) then y2 else y2)) (if dlt (K.getD y2.toNatClampNeg 0) (K.getD y1.toNatClampNeg 0) then (if dle (K.getD y3.toNatClampNeg 0) (K.getD y2.toNatClampNeg 0) then ((P.set y0.toNatClampNeg (-1 : Int32)).set y3.toNatClampNeg (0 : Int32)) else (((P.set y0.toNatClampNeg (-1 : Int32)).set y2.toNatClampNeg (0 : Int32)).set y3.toNatClampNeg (2 : Int32))) else (if dle (K.getD y3.toNatClampNeg 0) (K.getD y1.toNatClampNeg 0) then ((P.set y0.toNatClampNeg (-1 : Int32)).set y3.toNatClampNeg (0 : Int32)) else (((P.set y0.toNatClampNeg (-1 : Int32)).set y1.toNatClampNeg (0 : Int32)).set y3.toNatClampNeg (1 : Int32)))) K) ∧ (∀ z : Int32, (0 ≤ z.toInt ∧ z.toInt < 4) → pv P z = -1 → pv (if dlt (K.getD y2.toNatClampNeg 0) (K.getD y1.toNatClampNeg 0) then (if dle (K.getD y3.toNatClampNeg 0) (K.getD y2.toNatClampNeg 0) then ((P.set y0.toNatClampNeg (-1 : Int32)).set y3.toNatClampNeg (0 : Int32)) else (((P.set y0.toNatClampNeg (-1 : Int32)).set y2.toNatClampNeg (0 : Int32)).set y3.toNatClampNeg (2 : Int32))) else (if dle (K.getD y3.toNatClampNeg 0) (K.getD y1.toNatClampNeg 0) then ((P.set y0.toNatClampNeg (-1 : Int32)).set y3.toNatClampNeg (0 : Int32)) else (((P.set y0.toNatClampNeg (-1 : Int32)).set y1.toNatClampNeg (0 : Int32)).set y3.toNatClampNeg (1 : Int32)))) z = -1) ∧ (pv (if dlt (K.getD y2.toNatClampNeg 0) (K.getD y1.toNatClampNeg 0) then (if dle (K.getD y3.toNatClampNeg 0) (K.getD y2.toNatClampNeg 0) then ((P.set y0.toNatClampNeg (-1 : Int32)).set y3.toNatClampNeg (0 : Int32)) else (((P.set y0.toNatClampNeg (-1 : Int32)).set y2.toNatClampNeg (0 : Int32)).set y3.toNatClampNeg (2 : Int32))) else (if dle (K.getD y3.toNatClampNeg 0) (K.getD y1.toNatClampNeg 0) then ((P.set y0.toNatClampNeg (-1 : Int32)).set y3.toNatClampNeg (0 : Int32)) else (((P.set y0.toNatClampNeg (-1 : Int32)).set y1.toNatClampNeg (0 : Int32)).set y3.toNatClampNeg (1 : Int32)))) y0 = -1) ∧ (0 ≤ y0.toInt ∧ y0.toInt < 4) ∧ (kv K y0 ≤ kv K (if dlt (K.getD y2.toNatClampNeg 0) (K.getD y1.toNatClampNeg 0) then (if dle (K.getD y3.toNatClampNeg 0) (K.getD y2.toNatClampNeg 0) then y3 else y2) else (if dle (K.getD y3.toNatClampNeg 0) (K.getD y1.toNatClampNeg 0) then y3 else y1)) ∧ kv K y0 ≤ kv K (if dlt (K.getD y2.toNatClampNeg 0) (K.getD y1.toNatClampNeg 0) then (if dle (K.getD y3.toNatClampNeg 0) (K.getD y2.toNatClampNeg 0) then y1 else y1) else (if dle (K.getD y3.toNatClampNeg 0) (K.getD y1.toNatClampNeg 0) then y1 else y3)) ∧ kv K y0 ≤ kv K (if dlt (K.getD y2.toNatClampNeg 0) (K.getD y1.toNatClampNeg 0) then (if dle (K.getD y3.toNatClampNeg 0) (K.getD y2.toNatClampNeg 0) then y2 else y3) else (if dle (K.getD y3.toNatClampNeg 0) (K.getD y1.toNatClampNeg 0) then y2 else y2)))
set_option maxRecDepth 65536 in
set_option maxHeartbeats 40000000 in
theorem rm74 (l : Launch) (Z : State) (a0 : Array Value) (hw : ∀ d ∈ tables_1, d.before a0 Z = true) (ws : List Jvm.Cond) (o0 : Addr) (heap_o0 : Addr) (position_o0 : Addr) (key_o0 : Addr) (y0 : Int32) (y1 : Int32) (y2 : Int32) (y3 : Int32) (P : List Int32) (K : List UInt64) (h0 : Heap) (n0 : Nat) (Z0 : n0 ≤ h0.size) (E_o0 : Exa Z h0 o0 "com/example/cross_town/crosstown/solve/NodeHeap") (F_o0_heap : Fld Z h0 o0 "com/example/cross_town/crosstown/solve/NodeHeap" "heap" "[I" (.ref heap_o0)) (F_o0_position : Fld Z h0 o0 "com/example/cross_town/crosstown/solve/NodeHeap" "position" "[I" (.ref position_o0)) (F_o0_key : Fld Z h0 o0 "com/example/cross_town/crosstown/solve/NodeHeap" "key" "[D" (.ref key_o0)) (V_heap_o0 : Ary tr Z h0 heap_o0 .int [(.int y0), (.int y1), (.int y2), (.int y3)]) (V_position_o0 : Ary tr Z h0 position_o0 .int (P.map Value.int)) (hl_P : (P.length = 4)) (V_key_o0 : Ary tr Z h0 key_o0 .double (K.map Value.double)) (hl_K : (K.length = 4)) (F_o0_size : Fld Z h0 o0 "com/example/cross_town/crosstown/solve/NodeHeap" "size" "I" (.int (4 : Int32))) (nnk : (NNk K)) (hp : (Hp4 y0 y1 y2 y3 P K)) (g_position_o0 : n0 ≤ position_o0) (ne_o0_position_o0 : o0 ≠ position_o0) (ne_heap_o0_position_o0 : heap_o0 ≠ position_o0) (ne_key_o0_position_o0 : key_o0 ≠ position_o0) (g_o0 : n0 ≤ o0) (ne_heap_o0_o0 : heap_o0 ≠ o0) (ne_key_o0_o0 : key_o0 ≠ o0) (g_heap_o0 : n0 ≤ heap_o0) (ne_key_o0_heap_o0 : key_o0 ≠ heap_o0) :
    MetFree l (⟨"com/example/cross_town/crosstown/solve/NodeHeap", "poll", "()I"⟩ : MethodName) (head1 (Jvm.Cond.code (⟨"com/example/cross_town/crosstown/solve/NodeHeap", "poll", "()I"⟩ : MethodName) prog_33_method_4_code 2 (some .int) :: ws) ({ frames := 2, cells := 0, slots := 0, locals := 30 } : Room)) (fun a U => a = #[(.ref o0)] ∧ Z.Warmed39 U.vm ∧ U.heap = h0) (fun _ _ _ _ _ => True) (fun _ U o U' => ∃ v L, o = .returned v ∧ Q74 Z o0 heap_o0 position_o0 key_o0 y0 y1 y2 y3 P K h0 n0 v U'.heap L ∧ FrameEnd U o U' L ({ frames := 2, cells := 0, slots := 0, locals := 30 } : Room).cells ({ frames := 2, cells := 0, slots := 0, locals := 30 } : Room).slots) := by
  refine MetFree.of_bodySF (plainFor_of_name pn_com_example_cross_town_crosstown_solve_NodeHeap) hisR ?_
  intro p e s m args below meth c s₁ Bd hml0 hP hK
  obtain ⟨rfl, hZ, hh⟩ := hP
  have hx := Bd.exec
  have hby := Bd.bytes
  have hml : c.maxLocals = 2 := hml0
  have hown : s.vm.findClass "com/example/cross_town/crosstown/solve/NodeHeap" = some m.cls := findClass_of_methodNamed Bd.named
  have hnm := (name_of_methodNamed Bd.named Bd.method).1
  have X0 : Stand p l e ({ frames := 2, cells := 0, slots := 0, locals := 30 } : Room) s m #[(.ref o0)] below meth c s₁ [] 0 0 := Stand.of_body Bd
  have eH0 : s₁.heap = h0 := by rw [← hh, Bd.state]; rfl
  have N0 := Fr.nil n0
  have K0 := Keep.refl h0 [position_o0, o0, heap_o0]
  show Gt p.tables e below (fun o U' => ∃ v L, o = .returned v ∧ Q74 Z o0 heap_o0 position_o0 key_o0 y0 y1 y2 y3 P K h0 n0 v U'.heap L ∧ FrameEnd s o U' L ({ frames := 2, cells := 0, slots := 0, locals := 30 } : Room).cells ({ frames := 2, cells := 0, slots := 0, locals := 30 } : Room).slots) _
  refine own_cast (ef74 m o0) ?_
  obtain ⟨rg_y0, rg_y1, rg_y2, rg_y3, pv_y0, pv_y1, pv_y2, pv_y3, ord1, ord2, ord3⟩ := hp
  have d_y0_y1 : ¬ y0.toInt = y1.toInt := own_pne pv_y0 pv_y1 (by decide)
  have d_y0_y2 : ¬ y0.toInt = y2.toInt := own_pne pv_y0 pv_y2 (by decide)
  have d_y0_y3 : ¬ y0.toInt = y3.toInt := own_pne pv_y0 pv_y3 (by decide)
  have d_y1_y0 : ¬ y1.toInt = y0.toInt := own_pne pv_y1 pv_y0 (by decide)
  have d_y1_y2 : ¬ y1.toInt = y2.toInt := own_pne pv_y1 pv_y2 (by decide)
  have d_y1_y3 : ¬ y1.toInt = y3.toInt := own_pne pv_y1 pv_y3 (by decide)
  have d_y2_y0 : ¬ y2.toInt = y0.toInt := own_pne pv_y2 pv_y0 (by decide)
  have d_y2_y1 : ¬ y2.toInt = y1.toInt := own_pne pv_y2 pv_y1 (by decide)
  have d_y2_y3 : ¬ y2.toInt = y3.toInt := own_pne pv_y2 pv_y3 (by decide)
  have d_y3_y0 : ¬ y3.toInt = y0.toInt := own_pne pv_y3 pv_y0 (by decide)
  have d_y3_y1 : ¬ y3.toInt = y1.toInt := own_pne pv_y3 pv_y1 (by decide)
  have d_y3_y2 : ¬ y3.toInt = y2.toInt := own_pne pv_y3 pv_y2 (by decide)
  refine own_aloadN X0 hx hby rfl rfl d7_0 (pc' := 1) rfl ?_
  refine own_getF X0 hx hby hZ hown (host := "") (Or.inl (hw _ (List.mem_of_getElem? (i := 11) rfl))) Via.refl eH0 F_o0_heap d7_1 (pc' := 4) rfl (fun T1 X1 eH1 => ?_)
  refine own_iconst X1 hx hby (v := (0 : Int32)) (by decide) d7_4 (pc' := 5) rfl ?_
  refine own_iaload X1 hx hby hZ eH1 V_heap_o0 (by decide) (v := (.int y0)) rfl d7_5 (pc' := 6) rfl ?_
  refine own_istoreN X1 hx hby (L' := #[.val (.ref o0), .val (.int y0)]) rfl d7_6 (pc' := 7) rfl ?_
  refine own_aloadN X1 hx hby rfl rfl d7_7 (pc' := 8) rfl ?_
  refine own_getF X1 hx hby hZ hown (host := "") (Or.inl (hw _ (List.mem_of_getElem? (i := 13) rfl))) Via.refl eH1 F_o0_position d7_8 (pc' := 11) rfl (fun T2 X2 eH2 => ?_)
  refine own_iloadN X2 hx hby rfl d7_11 (pc' := 12) rfl ?_
  refine own_iconst X2 hx hby (v := (-1 : Int32)) (by decide) d7_12 (pc' := 13) rfl ?_
  refine own_iastore X2 hx hby hZ eH2 V_position_o0 (own_rg0 rg_y0) (n := y0.toNatClampNeg) rfl (by rw [List.length_map]; exact own_rgl rg_y0 hl_P) d7_13 (pc' := 14) rfl (fun T3 h3 X3 eH3 W3 => ?_)
  replace E_o0 := E_o0.wr W3
  replace F_o0_heap := F_o0_heap.other W3 (Or.inl ne_o0_position_o0)
  replace F_o0_position := F_o0_position.other W3 (Or.inl ne_o0_position_o0)
  replace F_o0_key := F_o0_key.other W3 (Or.inl ne_o0_position_o0)
  replace F_o0_size := F_o0_size.other W3 (Or.inl ne_o0_position_o0)
  replace V_heap_o0 := V_heap_o0.other W3 ne_heap_o0_position_o0
  replace V_key_o0 := V_key_o0.other W3 ne_key_o0_position_o0
  have N3 := Fr.snoc X3 N0 g_position_o0
  replace K0 := K0.wr W3 (Or.inl (by simp))
  replace Z0 := Nat.le_trans Z0 (Nat.le_of_eq W3.size.symm)
  have hl4 : (P.set y0.toNatClampNeg (-1 : Int32)).length = 4 := by rw [List.length_set]; exact hl_P
  replace V_position_o0 : Ary tr Z h3 position_o0 .int ((P.set y0.toNatClampNeg (-1 : Int32)).map Value.int) := by rw [List.map_set]; exact V_position_o0.set W3
  refine own_aloadN X3 hx hby rfl rfl d7_14 (pc' := 15) rfl ?_
  refine own_dup X3 hx hby rfl d7_15 (pc' := 16) rfl ?_
  refine own_getF X3 hx hby hZ hown (host := "") (Or.inl (hw _ (List.mem_of_getElem? (i := 26) rfl))) Via.refl eH3 F_o0_size d7_16 (pc' := 19) rfl (fun T5 X5 eH5 => ?_)
  refine own_iconst X5 hx hby (v := (1 : Int32)) (by decide) d7_19 (pc' := 20) rfl ?_
  refine own_isub X5 hx hby (v := (3 : Int32)) (by decide) d7_20 (pc' := 21) rfl ?_
  refine own_putF X5 hx hby hZ hown (host := "") (Or.inl (hw _ (List.mem_of_getElem? (i := 26) rfl))) Via.refl eH5 F_o0_size E_o0 (Or.inl (hw _ (List.mem_of_getElem? (i := 27) rfl))) (hw _ (List.mem_of_getElem? (i := 2) rfl)) (ty := .int) (by decide) rfl rfl d7_21 (pc' := 24) rfl (fun T6 h6 X6 eH6 W6 => ?_)
  replace E_o0 := E_o0.wr W6
  replace F_o0_heap := F_o0_heap.other W6 (Or.inr (slot_ne (Or.inr (hw _ (List.mem_of_getElem? (i := 12) rfl))) (Or.inl (hw _ (List.mem_of_getElem? (i := 27) rfl))) (by decide) (t := (.array .int)) (t' := .int) (by decide) (by decide)))
  replace F_o0_position := F_o0_position.other W6 (Or.inr (slot_ne (Or.inr (hw _ (List.mem_of_getElem? (i := 14) rfl))) (Or.inl (hw _ (List.mem_of_getElem? (i := 27) rfl))) (by decide) (t := (.array .int)) (t' := .int) (by decide) (by decide)))
  replace F_o0_key := F_o0_key.other W6 (Or.inr (slot_ne (Or.inr (hw _ (List.mem_of_getElem? (i := 16) rfl))) (Or.inl (hw _ (List.mem_of_getElem? (i := 27) rfl))) (by decide) (t := (.array .double)) (t' := .int) (by decide) (by decide)))
  replace F_o0_size := F_o0_size.same W6
  replace V_heap_o0 := V_heap_o0.other W6 ne_heap_o0_o0
  replace V_position_o0 := V_position_o0.other W6 (Ne.symm ne_o0_position_o0)
  replace V_key_o0 := V_key_o0.other W6 ne_key_o0_o0
  have N6 := Fr.snoc X6 N3 g_o0
  replace K0 := K0.wr W6 (Or.inl (by simp))
  replace Z0 := Nat.le_trans Z0 (Nat.le_of_eq W6.size.symm)
  refine own_aloadN X6 hx hby rfl rfl d7_24 (pc' := 25) rfl ?_
  refine own_getF X6 hx hby hZ hown (host := "") (Or.inl (hw _ (List.mem_of_getElem? (i := 26) rfl))) Via.refl eH6 F_o0_size d7_25 (pc' := 28) rfl (fun T7 X7 eH7 => ?_)
  refine own_ifF X7 hx hby d7_28 (by decide) (pc' := 31) rfl ?_
  refine own_aloadN X7 hx hby rfl rfl d7_31 (pc' := 32) rfl ?_
  refine own_iconst X7 hx hby (v := (0 : Int32)) (by decide) d7_32 (pc' := 33) rfl ?_
  refine own_aloadN X7 hx hby rfl rfl d7_33 (pc' := 34) rfl ?_
  refine own_getF X7 hx hby hZ hown (host := "") (Or.inl (hw _ (List.mem_of_getElem? (i := 11) rfl))) Via.refl eH7 F_o0_heap d7_34 (pc' := 37) rfl (fun T8 X8 eH8 => ?_)
  refine own_aloadN X8 hx hby rfl rfl d7_37 (pc' := 38) rfl ?_
  refine own_getF X8 hx hby hZ hown (host := "") (Or.inl (hw _ (List.mem_of_getElem? (i := 26) rfl))) Via.refl eH8 F_o0_size d7_38 (pc' := 41) rfl (fun T9 X9 eH9 => ?_)
  refine own_iaload X9 hx hby hZ eH9 V_heap_o0 (by decide) (v := (.int y3)) rfl d7_41 (pc' := 42) rfl ?_
  refine own_private X9 hx hby hZ (y := (⟨"com/example/cross_town/crosstown/solve/NodeHeap", "siftDown", "(II)V"⟩ : MethodName)) (rest := []) hown (hw _ (List.mem_of_getElem? (i := 42) rfl)) (hw _ (List.mem_of_getElem? (i := 43) rfl)) (hw _ (List.mem_of_getElem? (i := 2) rfl)) (hw _ (List.mem_of_getElem? (i := 44) rfl)) (hw _ (List.mem_of_getElem? (i := 45) rfl)) (hw _ (List.mem_of_getElem? (i := 3) rfl)) (by decide) (rm83 l Z a0 hw [] o0 y3 heap_o0 position_o0 key_o0 y0 y1 y2 y3 (P.set y0.toNatClampNeg (-1 : Int32)) K h6 n0 Z0 E_o0 F_o0_heap F_o0_position F_o0_key V_heap_o0 V_position_o0 (by first | assumption | rfl | (simp only [List.length_set]; first | assumption | rfl)) V_key_o0 (by first | assumption | rfl | (simp only [List.length_set]; first | assumption | rfl)) F_o0_size rg_y3 nnk (by rw [own_pvs hl_P rg_y0 rg_y3, if_neg d_y0_y3]; exact pv_y3) rg_y1 (by rw [own_pvs hl_P rg_y0 rg_y1, if_neg d_y0_y1]; exact pv_y1) rg_y2 (by rw [own_pvs hl_P rg_y0 rg_y2, if_neg d_y0_y2]; exact pv_y2) g_heap_o0 (Ne.symm ne_heap_o0_o0) (Ne.symm ne_heap_o0_position_o0) g_position_o0 ne_o0_position_o0 ne_key_o0_position_o0 ne_key_o0_heap_o0) eH9 (by rw [hml]; rfl) (a := o0) E_o0 (argsL := [(.int (0 : Int32)), (.int y3)]) rfl (lenOf pd_1 rfl) rfl d7_42 (pc' := 45) rfl (by decide) (W := 0) (Nat.le_of_eq rfl) (by decide) (by decide) (by decide) (fun T10 h10 Lc10 v10r X10 eH10 hQ10 => ?_)
  obtain ⟨rfl, Nq10, Kq10, gq10_0, gq10_1, gq10_2, gq10_3, gq10_4⟩ := hQ10
  have N10 := Fr.app N6 Nq10
  replace E_o0 := E_o0.keep Kq10
  replace F_o0_heap := F_o0_heap.keep Kq10 (ninS ne_o0_position_o0 (ninS (Ne.symm ne_heap_o0_o0) nin0))
  replace F_o0_position := F_o0_position.keep Kq10 (ninS ne_o0_position_o0 (ninS (Ne.symm ne_heap_o0_o0) nin0))
  replace F_o0_key := F_o0_key.keep Kq10 (ninS ne_o0_position_o0 (ninS (Ne.symm ne_heap_o0_o0) nin0))
  replace F_o0_size := F_o0_size.keep Kq10 (ninS ne_o0_position_o0 (ninS (Ne.symm ne_heap_o0_o0) nin0))
  replace V_key_o0 := V_key_o0.keep Kq10 (ninS ne_key_o0_position_o0 (ninS ne_key_o0_heap_o0 nin0))
  replace K0 := K0.trans Kq10 (allS (Or.inl (by simp)) (allS (Or.inl (by simp)) all0))
  have hl11 : (if dlt (K.getD y2.toNatClampNeg 0) (K.getD y1.toNatClampNeg 0) then (if dle (K.getD y3.toNatClampNeg 0) (K.getD y2.toNatClampNeg 0) then ((P.set y0.toNatClampNeg (-1 : Int32)).set y3.toNatClampNeg (0 : Int32)) else (((P.set y0.toNatClampNeg (-1 : Int32)).set y2.toNatClampNeg (0 : Int32)).set y3.toNatClampNeg (2 : Int32))) else (if dle (K.getD y3.toNatClampNeg 0) (K.getD y1.toNatClampNeg 0) then ((P.set y0.toNatClampNeg (-1 : Int32)).set y3.toNatClampNeg (0 : Int32)) else (((P.set y0.toNatClampNeg (-1 : Int32)).set y1.toNatClampNeg (0 : Int32)).set y3.toNatClampNeg (1 : Int32)))).length = 4 := by (repeat' split) <;> (simp only [List.length_set]; first | assumption | rfl)
  have V_position_o0 := gq10_0
  have V_heap_o0 := gq10_1
  have hp_10 : Hp3 (if dlt (K.getD y2.toNatClampNeg 0) (K.getD y1.toNatClampNeg 0) then (if dle (K.getD y3.toNatClampNeg 0) (K.getD y2.toNatClampNeg 0) then y3 else y2) else (if dle (K.getD y3.toNatClampNeg 0) (K.getD y1.toNatClampNeg 0) then y3 else y1)) (if dlt (K.getD y2.toNatClampNeg 0) (K.getD y1.toNatClampNeg 0) then (if dle (K.getD y3.toNatClampNeg 0) (K.getD y2.toNatClampNeg 0) then y1 else y1) else (if dle (K.getD y3.toNatClampNeg 0) (K.getD y1.toNatClampNeg 0) then y1 else y3)) (if dlt (K.getD y2.toNatClampNeg 0) (K.getD y1.toNatClampNeg 0) then (if dle (K.getD y3.toNatClampNeg 0) (K.getD y2.toNatClampNeg 0) then y2 else y3) else (if dle (K.getD y3.toNatClampNeg 0) (K.getD y1.toNatClampNeg 0) then y2 else y2)) (if dlt (K.getD y2.toNatClampNeg 0) (K.getD y1.toNatClampNeg 0) then (if dle (K.getD y3.toNatClampNeg 0) (K.getD y2.toNatClampNeg 0) then ((P.set y0.toNatClampNeg (-1 : Int32)).set y3.toNatClampNeg (0 : Int32)) else (((P.set y0.toNatClampNeg (-1 : Int32)).set y2.toNatClampNeg (0 : Int32)).set y3.toNatClampNeg (2 : Int32))) else (if dle (K.getD y3.toNatClampNeg 0) (K.getD y1.toNatClampNeg 0) then ((P.set y0.toNatClampNeg (-1 : Int32)).set y3.toNatClampNeg (0 : Int32)) else (((P.set y0.toNatClampNeg (-1 : Int32)).set y1.toNatClampNeg (0 : Int32)).set y3.toNatClampNeg (1 : Int32)))) K := gq10_2
  have ab_10 : ∀ z : Int32, (0 ≤ z.toInt ∧ z.toInt < 4) → pv (P.set y0.toNatClampNeg (-1 : Int32)) z = -1 → pv (if dlt (K.getD y2.toNatClampNeg 0) (K.getD y1.toNatClampNeg 0) then (if dle (K.getD y3.toNatClampNeg 0) (K.getD y2.toNatClampNeg 0) then ((P.set y0.toNatClampNeg (-1 : Int32)).set y3.toNatClampNeg (0 : Int32)) else (((P.set y0.toNatClampNeg (-1 : Int32)).set y2.toNatClampNeg (0 : Int32)).set y3.toNatClampNeg (2 : Int32))) else (if dle (K.getD y3.toNatClampNeg 0) (K.getD y1.toNatClampNeg 0) then ((P.set y0.toNatClampNeg (-1 : Int32)).set y3.toNatClampNeg (0 : Int32)) else (((P.set y0.toNatClampNeg (-1 : Int32)).set y1.toNatClampNeg (0 : Int32)).set y3.toNatClampNeg (1 : Int32)))) z = -1 := gq10_3
  have lb_10 : ∀ m : Int, m ≤ kv K y3 → m ≤ kv K y1 → m ≤ kv K y2 → m ≤ kv K (if dlt (K.getD y2.toNatClampNeg 0) (K.getD y1.toNatClampNeg 0) then (if dle (K.getD y3.toNatClampNeg 0) (K.getD y2.toNatClampNeg 0) then y3 else y2) else (if dle (K.getD y3.toNatClampNeg 0) (K.getD y1.toNatClampNeg 0) then y3 else y1)) ∧ m ≤ kv K (if dlt (K.getD y2.toNatClampNeg 0) (K.getD y1.toNatClampNeg 0) then (if dle (K.getD y3.toNatClampNeg 0) (K.getD y2.toNatClampNeg 0) then y1 else y1) else (if dle (K.getD y3.toNatClampNeg 0) (K.getD y1.toNatClampNeg 0) then y1 else y3)) ∧ m ≤ kv K (if dlt (K.getD y2.toNatClampNeg 0) (K.getD y1.toNatClampNeg 0) then (if dle (K.getD y3.toNatClampNeg 0) (K.getD y2.toNatClampNeg 0) then y2 else y3) else (if dle (K.getD y3.toNatClampNeg 0) (K.getD y1.toNatClampNeg 0) then y2 else y2)) := gq10_4
  replace Z0 := Nat.le_trans Z0 Kq10.1
  refine own_iloadN X10 hx hby rfl d7_45 (pc' := 46) rfl ?_
  have HA0 : ∀ z : Int32, (0 ≤ z.toInt ∧ z.toInt < 4) → pv P z = -1 → pv (P.set y0.toNatClampNeg (-1 : Int32)) z = -1 := fun z rgz hz => (by rw [own_pvs hl_P rg_y0 rgz, if_neg (own_pne pv_y0 hz (by decide))]; exact hz)
  have HZ0 : pv (P.set y0.toNatClampNeg (-1 : Int32)) y0 = -1 := (by rw [own_pvs hl_P rg_y0 rg_y0, if_pos rfl]; first | done | decide)
  exact own_retI X10 hx hby Bd.notSynchronized Bd.returns d7_46 (by decide) (by decide) eH10 ⟨rfl, N10, K0, V_position_o0, E_o0, F_o0_heap, F_o0_position, F_o0_key, F_o0_size, V_heap_o0, hp_10, (fun z rgz hz => ab_10 z rgz (HA0 z rgz hz)), (ab_10 y0 rg_y0 HZ0), rg_y0, (lb_10 (kv K y0) (by omega) (by omega) (by omega))⟩
theorem ef10 (m : MethodId) (x0 : Int32) : entryFrame m #[(.int x0)] 1 = mkF m 0 #[.val (.int x0)] [] := by first | (simp [entryFrame, mkF, argsToLocals, Value.category]; done) | rfl
def Q10 (Z : State) (p0 : Int32) (h0 : Heap) (n0 : Nat) (v : Option Value) (h : Heap) (L : List Loc) : Prop := v = some (.int (if p0 < 0 then (0 : Int32) else (if p0 < (4 : Int32) then (1 : Int32) else (0 : Int32)))) ∧ Fr n0 L ∧ h0 = h
set_option maxRecDepth 65536 in
set_option maxHeartbeats 40000000 in
theorem rm10 (l : Launch) (Z : State) (a0 : Array Value) (hw : ∀ d ∈ tables_1, d.before a0 Z = true) (ws : List Jvm.Cond) (p0 : Int32) (h0 : Heap) (n0 : Nat) (Z0 : n0 ≤ h0.size) :
    MetFree l (⟨"com/example/cross_town/crosstown/solve/NodeHeapInsertOrLowerPinLaw", "inRange", "(I)Z"⟩ : MethodName) (head1 (Jvm.Cond.code (⟨"com/example/cross_town/crosstown/solve/NodeHeapInsertOrLowerPinLaw", "inRange", "(I)Z"⟩ : MethodName) method_2_code 1 (some .boolean) :: ws) ({ frames := 0, cells := 0, slots := 0, locals := 0 } : Room)) (fun a U => a = #[(.int p0)] ∧ Z.Warmed39 U.vm ∧ U.heap = h0) (fun _ _ _ _ _ => True) (fun _ U o U' => ∃ v L, o = .returned v ∧ Q10 Z p0 h0 n0 v U'.heap L ∧ FrameEnd U o U' L ({ frames := 0, cells := 0, slots := 0, locals := 0 } : Room).cells ({ frames := 0, cells := 0, slots := 0, locals := 0 } : Room).slots) := by
  refine MetFree.of_bodySF (plainFor_of_name pn_com_example_cross_town_crosstown_solve_NodeHeapInsertOrLowerPinLaw) hisR ?_
  intro p e s m args below meth c s₁ Bd hml0 hP hK
  obtain ⟨rfl, hZ, hh⟩ := hP
  have hx := Bd.exec
  have hby := Bd.bytes
  have hml : c.maxLocals = 1 := hml0
  have hown : s.vm.findClass "com/example/cross_town/crosstown/solve/NodeHeapInsertOrLowerPinLaw" = some m.cls := findClass_of_methodNamed Bd.named
  have hnm := (name_of_methodNamed Bd.named Bd.method).1
  have X0 : Stand p l e ({ frames := 0, cells := 0, slots := 0, locals := 0 } : Room) s m #[(.int p0)] below meth c s₁ [] 0 0 := Stand.of_body Bd
  have eH0 : s₁.heap = h0 := by rw [← hh, Bd.state]; rfl
  have N0 := Fr.nil n0
  show Gt p.tables e below (fun o U' => ∃ v L, o = .returned v ∧ Q10 Z p0 h0 n0 v U'.heap L ∧ FrameEnd s o U' L ({ frames := 0, cells := 0, slots := 0, locals := 0 } : Room).cells ({ frames := 0, cells := 0, slots := 0, locals := 0 } : Room).slots) _
  refine own_cast (ef10 m p0) ?_
  refine own_iloadN X0 hx hby rfl d10_0 (pc' := 1) rfl ?_
  by_cases hc1 : p0 < 0
  · refine own_ifT X0 hx hby d10_1 (own_i0_lt_p hc1) (by decide) (pc' := 13) (by decide) ?_
    refine own_iconst X0 hx hby (v := (0 : Int32)) (by decide) d10_13 (pc' := 14) rfl ?_
    exact own_retZ X0 hx hby Bd.notSynchronized Bd.returns (Or.inl rfl) d10_14 (by decide) (by decide) eH0 ⟨(by rw [if_pos hc1]), N0, rfl⟩
  · refine own_ifF X0 hx hby d10_1 (own_i0_lt_n hc1) (pc' := 4) rfl ?_
    refine own_iloadN X0 hx hby rfl d10_4 (pc' := 5) rfl ?_
    refine own_iconst X0 hx hby (v := (4 : Int32)) (by decide) d10_5 (pc' := 6) rfl ?_
    by_cases hc2 : p0 < (4 : Int32)
    · refine own_icF X0 hx hby d10_6 (own_ic_ge_p hc2) (pc' := 9) rfl ?_
      refine own_iconst X0 hx hby (v := (1 : Int32)) (by decide) d10_9 (pc' := 10) rfl ?_
      refine own_goto X0 hx hby d10_10 (by decide) (pc' := 14) (by decide) ?_
      exact own_retZ X0 hx hby Bd.notSynchronized Bd.returns (Or.inr rfl) d10_14 (by decide) (by decide) eH0 ⟨(by rw [if_neg hc1, if_pos hc2]), N0, rfl⟩
    · refine own_icT X0 hx hby d10_6 (own_ic_ge_n hc2) (by decide) (pc' := 13) (by decide) ?_
      refine own_iconst X0 hx hby (v := (0 : Int32)) (by decide) d10_13 (pc' := 14) rfl ?_
      exact own_retZ X0 hx hby Bd.notSynchronized Bd.returns (Or.inl rfl) d10_14 (by decide) (by decide) eH0 ⟨(by rw [if_neg hc1, if_neg hc2]), N0, rfl⟩
theorem ef0 (m : MethodId) (x0 : Int32) (x1 : Int32) (x2 : Int32) (x3 : Int32) (x4 : Int32) (x5 : Int32) : entryFrame m #[(.int x0), (.int x1), (.int x2), (.int x3), (.int x4), (.int x5)] maxLocals = mkF m 0 #[.val (.int x0), .val (.int x1), .val (.int x2), .val (.int x3), .val (.int x4), .val (.int x5), .unset, .unset, .unset, .unset, .unset, .unset, .unset, .unset, .unset, .unset, .unset] [] := by first | (simp [entryFrame, mkF, argsToLocals, Value.category, maxLocals]; done) | rfl
def Q0 (Z : State) (p0 : Int32) (p1 : Int32) (p2 : Int32) (p3 : Int32) (p4 : Int32) (p5 : Int32) (h0 : Heap) (n0 : Nat) (v : Option Value) (h : Heap) (L : List Loc) : Prop := v = some (.int 1) ∧ Fr n0 L
set_option maxRecDepth 65536 in
set_option maxHeartbeats 40000000 in
theorem rm0 (l : Launch) (Z : State) (a0 : Array Value) (hw : ∀ d ∈ tables_1, d.before a0 Z = true) (ws : List Jvm.Cond) (p0 : Int32) (p1 : Int32) (p2 : Int32) (p3 : Int32) (p4 : Int32) (p5 : Int32) (h0 : Heap) (n0 : Nat) (Z0 : n0 ≤ h0.size) :
    MetFree l x (head1 (Jvm.Cond.code x code maxLocals ret :: ws) room_1) (fun a U => a = #[(.int p0), (.int p1), (.int p2), (.int p3), (.int p4), (.int p5)] ∧ Z.Warmed39 U.vm ∧ U.heap = h0) (fun _ _ _ _ _ => True) (fun _ U o U' => ∃ v L, o = .returned v ∧ Q0 Z p0 p1 p2 p3 p4 p5 h0 n0 v U'.heap L ∧ FrameEnd U o U' L 24 128) := by
  refine MetFree.of_bodySF (plainFor_of_name pn_com_example_cross_town_crosstown_solve_NodeHeapInsertOrLowerPinLaw) hisR ?_
  intro p e s m args below meth c s₁ Bd hml0 hP hK
  obtain ⟨rfl, hZ, hh⟩ := hP
  have hx := Bd.exec
  have hby := Bd.bytes
  have hml : c.maxLocals = 17 := hml0
  have hown : s.vm.findClass "com/example/cross_town/crosstown/solve/NodeHeapInsertOrLowerPinLaw" = some m.cls := findClass_of_methodNamed Bd.named
  have hnm := (name_of_methodNamed Bd.named Bd.method).1
  have X0 : Stand p l e room_1 s m #[(.int p0), (.int p1), (.int p2), (.int p3), (.int p4), (.int p5)] below meth c s₁ [] 0 0 := Stand.of_body Bd
  have eH0 : s₁.heap = h0 := by rw [← hh, Bd.state]; rfl
  have N0 := Fr.nil n0
  show Gt p.tables e below (fun o U' => ∃ v L, o = .returned v ∧ Q0 Z p0 p1 p2 p3 p4 p5 h0 n0 v U'.heap L ∧ FrameEnd s o U' L 24 128) _
  refine own_cast (ef0 m p0 p1 p2 p3 p4 p5) ?_
  refine own_iconst X0 hx hby (v := (4 : Int32)) (by decide) at_0 (pc' := 1) rfl ?_
  refine own_newP X0 hx hby hZ (hw _ (List.mem_of_getElem? (i := 0) rfl)) eH0 at_1 (pc' := 3) rfl (by decide) (N := 4) (by decide) (cap := 4) (by decide) (by decide) (by decide) (by decide) (ad := "[D") (by decide) (fun T1 h1 b1 X1 eH1 E1 g1 E_b1 V_b1 => ?_)
  have g_b1 : n0 ≤ b1 := g1 ▸ Z0
  replace Z0 := Nat.le_trans Z0 E1.1
  have V_b1 : Ary tr Z h1 b1 .double [(.double (0 : UInt64)), (.double (0 : UInt64)), (.double (0 : UInt64)), (.double (0 : UInt64))] := V_b1
  refine own_astore X1 hx hby rfl (L' := #[.val (.int p0), .val (.int p1), .val (.int p2), .val (.int p3), .val (.int p4), .val (.int p5), .val (.ref b1), .unset, .unset, .unset, .unset, .unset, .unset, .unset, .unset, .unset, .unset]) rfl at_3 (pc' := 5) rfl ?_
  refine own_aload X1 hx hby rfl rfl at_5 (pc' := 7) rfl ?_
  refine own_iconst X1 hx hby (v := (0 : Int32)) (by decide) at_7 (pc' := 8) rfl ?_
  refine own_iloadN X1 hx hby rfl at_8 (pc' := 9) rfl ?_
  obtain ⟨v2, q_v2⟩ : ∃ z : UInt64, (FP.i2d p0) = z := ⟨_, rfl⟩
  have D_v2 : Dy v2 p0.toInt 0 := q_v2 ▸ dy_i2d p0
  refine own_i2d X1 hx hby q_v2 at_9 (pc' := 10) rfl ?_
  refine own_dastore X1 hx hby hZ eH1 V_b1 (by decide) (n := 0) (by decide) (of_decide_eq_true rfl) at_10 (pc' := 11) rfl (fun T3 h3 X3 eH3 W3 => ?_)
  replace E_b1 := E_b1.wr W3
  have N3 := Fr.snoc X3 N0 g_b1
  replace Z0 := Nat.le_trans Z0 (Nat.le_of_eq W3.size.symm)
  replace V_b1 : Ary tr Z h3 b1 .double [(.double v2), (.double (0 : UInt64)), (.double (0 : UInt64)), (.double (0 : UInt64))] := V_b1.set W3
  refine own_aload X3 hx hby rfl rfl at_11 (pc' := 13) rfl ?_
  refine own_iconst X3 hx hby (v := (1 : Int32)) (by decide) at_13 (pc' := 14) rfl ?_
  refine own_iloadN X3 hx hby rfl at_14 (pc' := 15) rfl ?_
  obtain ⟨v4, q_v4⟩ : ∃ z : UInt64, (FP.i2d p1) = z := ⟨_, rfl⟩
  have D_v4 : Dy v4 p1.toInt 0 := q_v4 ▸ dy_i2d p1
  refine own_i2d X3 hx hby q_v4 at_15 (pc' := 16) rfl ?_
  refine own_dastore X3 hx hby hZ eH3 V_b1 (by decide) (n := 1) (by decide) (of_decide_eq_true rfl) at_16 (pc' := 17) rfl (fun T5 h5 X5 eH5 W5 => ?_)
  replace E_b1 := E_b1.wr W5
  have N5 := Fr.snoc X5 N3 g_b1
  replace Z0 := Nat.le_trans Z0 (Nat.le_of_eq W5.size.symm)
  replace V_b1 : Ary tr Z h5 b1 .double [(.double v2), (.double v4), (.double (0 : UInt64)), (.double (0 : UInt64))] := V_b1.set W5
  refine own_aload X5 hx hby rfl rfl at_17 (pc' := 19) rfl ?_
  refine own_iconst X5 hx hby (v := (2 : Int32)) (by decide) at_19 (pc' := 20) rfl ?_
  refine own_iloadN X5 hx hby rfl at_20 (pc' := 21) rfl ?_
  obtain ⟨v6, q_v6⟩ : ∃ z : UInt64, (FP.i2d p2) = z := ⟨_, rfl⟩
  have D_v6 : Dy v6 p2.toInt 0 := q_v6 ▸ dy_i2d p2
  refine own_i2d X5 hx hby q_v6 at_21 (pc' := 22) rfl ?_
  refine own_dastore X5 hx hby hZ eH5 V_b1 (by decide) (n := 2) (by decide) (of_decide_eq_true rfl) at_22 (pc' := 23) rfl (fun T7 h7 X7 eH7 W7 => ?_)
  replace E_b1 := E_b1.wr W7
  have N7 := Fr.snoc X7 N5 g_b1
  replace Z0 := Nat.le_trans Z0 (Nat.le_of_eq W7.size.symm)
  replace V_b1 : Ary tr Z h7 b1 .double [(.double v2), (.double v4), (.double v6), (.double (0 : UInt64))] := V_b1.set W7
  refine own_aload X7 hx hby rfl rfl at_23 (pc' := 25) rfl ?_
  refine own_iconst X7 hx hby (v := (3 : Int32)) (by decide) at_25 (pc' := 26) rfl ?_
  refine own_iloadN X7 hx hby rfl at_26 (pc' := 27) rfl ?_
  obtain ⟨v8, q_v8⟩ : ∃ z : UInt64, (FP.i2d p3) = z := ⟨_, rfl⟩
  have D_v8 : Dy v8 p3.toInt 0 := q_v8 ▸ dy_i2d p3
  refine own_i2d X7 hx hby q_v8 at_27 (pc' := 28) rfl ?_
  refine own_dastore X7 hx hby hZ eH7 V_b1 (by decide) (n := 3) (by decide) (of_decide_eq_true rfl) at_28 (pc' := 29) rfl (fun T9 h9 X9 eH9 W9 => ?_)
  replace E_b1 := E_b1.wr W9
  have N9 := Fr.snoc X9 N7 g_b1
  replace Z0 := Nat.le_trans Z0 (Nat.le_of_eq W9.size.symm)
  replace V_b1 : Ary tr Z h9 b1 .double [(.double v2), (.double v4), (.double v6), (.double v8)] := V_b1.set W9
  refine own_newO X9 hx hby hZ hown (hw _ (List.mem_of_getElem? (i := 1) rfl)) (hw _ (List.mem_of_getElem? (i := 2) rfl)) (hw _ (List.mem_of_getElem? (i := 3) rfl)) eH9 at_29 (pc' := 32) rfl (by decide) (by decide) (fun T10 h10 b10 X10 eH10 E10 g10 E_b10 D10 => ?_)
  have g_b10 : n0 ≤ b10 := g10 ▸ Z0
  have ne_b1_b10 : b1 ≠ b10 := Nat.ne_of_lt (g10 ▸ E_b1.lt)
  replace E_b1 := E_b1.ext E10
  replace V_b1 := V_b1.ext E10
  replace Z0 := Nat.le_trans Z0 E10.1
  have F_b10_heap : Fld Z h10 b10 "com/example/cross_town/crosstown/solve/NodeHeap" "heap" "[I" .null := D10 (Or.inr (hw _ (List.mem_of_getElem? (i := 12) rfl))) (ty := (.array .int)) (by decide)
  have F_b10_position : Fld Z h10 b10 "com/example/cross_town/crosstown/solve/NodeHeap" "position" "[I" .null := D10 (Or.inr (hw _ (List.mem_of_getElem? (i := 14) rfl))) (ty := (.array .int)) (by decide)
  have F_b10_key : Fld Z h10 b10 "com/example/cross_town/crosstown/solve/NodeHeap" "key" "[D" .null := D10 (Or.inr (hw _ (List.mem_of_getElem? (i := 16) rfl))) (ty := (.array .double)) (by decide)
  have F_b10_size : Fld Z h10 b10 "com/example/cross_town/crosstown/solve/NodeHeap" "size" "I" (.int (0 : Int32)) := D10 (Or.inl (hw _ (List.mem_of_getElem? (i := 27) rfl))) (ty := .int) (by decide)
  refine own_dup X10 hx hby rfl at_32 (pc' := 33) rfl ?_
  refine own_iconst X10 hx hby (v := (4 : Int32)) (by decide) at_33 (pc' := 34) rfl ?_
  refine own_special X10 hx hby hZ (y := (⟨"com/example/cross_town/crosstown/solve/NodeHeap", "<init>", "(I)V"⟩ : MethodName)) (rest := [(.ref b10)]) rfl hown (hw _ (List.mem_of_getElem? (i := 4) rfl)) (hw _ (List.mem_of_getElem? (i := 5) rfl)) rfl (hw _ (List.mem_of_getElem? (i := 6) rfl)) (hw _ (List.mem_of_getElem? (i := 3) rfl)) (by decide) (rm1 l Z a0 hw [] b10 .null .null .null (0 : Int32) h10 n0 Z0 F_b10_heap F_b10_position F_b10_key F_b10_size E_b10 g_b10) eH10 (by rw [hml]; rfl) (a := b10) (argsL := [(.int (4 : Int32))]) rfl (lenOf pd_2 rfl) rfl at_34 (pc' := 37) rfl (by decide) (W := 1) (Nat.le_of_eq rfl) (by decide) (by decide) (by decide) (fun T11 h11 Lc11 v11r X11 eH11 hQ11 => ?_)
  obtain ⟨b2_11, b4_11, b6_11, rfl, Nq11, Kq11, gq11_0, gq11_1, gq11_2, gq11_3, gq11_4, gq11_5, gq11_6, gq11_7, gq11_8, gq11_9, gq11_10, gq11_11, gq11_12, gq11_13, gq11_14, gq11_15, gq11_16⟩ := hQ11
  have N11 := Fr.app N9 Nq11
  have g_b2_11 : n0 ≤ b2_11 := Nat.le_trans Z0 gq11_0
  have ne_b1_b2_11 : b1 ≠ b2_11 := Nat.ne_of_lt (Nat.lt_of_lt_of_le E_b1.lt gq11_0)
  have ne_b10_b2_11 : b10 ≠ b2_11 := Nat.ne_of_lt (Nat.lt_of_lt_of_le E_b10.lt gq11_0)
  have g_b4_11 : n0 ≤ b4_11 := Nat.le_trans Z0 gq11_1
  have ne_b1_b4_11 : b1 ≠ b4_11 := Nat.ne_of_lt (Nat.lt_of_lt_of_le E_b1.lt gq11_1)
  have ne_b10_b4_11 : b10 ≠ b4_11 := Nat.ne_of_lt (Nat.lt_of_lt_of_le E_b10.lt gq11_1)
  have g_b6_11 : n0 ≤ b6_11 := Nat.le_trans Z0 gq11_2
  have ne_b1_b6_11 : b1 ≠ b6_11 := Nat.ne_of_lt (Nat.lt_of_lt_of_le E_b1.lt gq11_2)
  have ne_b10_b6_11 : b10 ≠ b6_11 := Nat.ne_of_lt (Nat.lt_of_lt_of_le E_b10.lt gq11_2)
  replace E_b1 := E_b1.keep Kq11
  replace V_b1 := V_b1.keep Kq11 (ninS ne_b1_b10 nin0)
  replace E_b10 := E_b10.keep Kq11
  have ne_b2_11_b4_11 := gq11_3
  have ne_b2_11_b6_11 := gq11_4
  have ne_b4_11_b6_11 := gq11_5
  have E_b10 := gq11_6
  have F_b10_heap := gq11_7
  have F_b10_position := gq11_8
  have F_b10_key := gq11_9
  have F_b10_size := gq11_10
  have E_b2_11 := gq11_11
  have V_b2_11 := gq11_12
  have E_b4_11 := gq11_13
  have V_b4_11 := gq11_14
  have E_b6_11 := gq11_15
  have V_b6_11 := gq11_16
  replace Z0 := Nat.le_trans Z0 Kq11.1
  refine own_astore X11 hx hby rfl (L' := #[.val (.int p0), .val (.int p1), .val (.int p2), .val (.int p3), .val (.int p4), .val (.int p5), .val (.ref b1), .val (.ref b10), .unset, .unset, .unset, .unset, .unset, .unset, .unset, .unset, .unset]) rfl at_37 (pc' := 39) rfl ?_
  refine own_aload X11 hx hby rfl rfl at_39 (pc' := 41) rfl ?_
  refine own_iconst X11 hx hby (v := (0 : Int32)) (by decide) at_41 (pc' := 42) rfl ?_
  refine own_aload X11 hx hby rfl rfl at_42 (pc' := 44) rfl ?_
  refine own_iconst X11 hx hby (v := (0 : Int32)) (by decide) at_44 (pc' := 45) rfl ?_
  refine own_daload X11 hx hby hZ eH11 V_b1 (by decide) (v := (.double v2)) rfl at_45 (pc' := 46) rfl ?_
  refine own_virtual X11 hx hby hZ (y := (⟨"com/example/cross_town/crosstown/solve/NodeHeap", "insertOrLower", "(ID)V"⟩ : MethodName)) (y' := (⟨"com/example/cross_town/crosstown/solve/NodeHeap", "insertOrLower", "(ID)V"⟩ : MethodName)) (C := "com/example/cross_town/crosstown/solve/NodeHeap") (rest := []) hown (hw _ (List.mem_of_getElem? (i := 21) rfl)) (hw _ (List.mem_of_getElem? (i := 22) rfl)) (notFace_of_selects (args := #[]) (mvT hZ (hw _ (List.mem_of_getElem? (i := 24) rfl)))) (hw _ (List.mem_of_getElem? (i := 24) rfl)) (hw _ (List.mem_of_getElem? (i := 23) rfl)) (hw _ (List.mem_of_getElem? (i := 25) rfl)) (hw _ (List.mem_of_getElem? (i := 3) rfl)) (by decide) (rm4n0 l Z a0 hw [] b10 (0 : Int32) v2 b2_11 b4_11 b6_11 (0 : Int32) (0 : Int32) (0 : Int32) (0 : Int32) ([(-1 : Int32), (-1 : Int32), (-1 : Int32), (-1 : Int32)]) ([(0 : UInt64), (0 : UInt64), (0 : UInt64), (0 : UInt64)]) h11 n0 Z0 E_b10 F_b10_heap F_b10_position F_b10_key F_b10_size V_b2_11 V_b4_11 (by first | assumption | rfl | (simp only [List.length_set]; first | assumption | rfl)) V_b6_11 (by first | assumption | rfl | (simp only [List.length_set]; first | assumption | rfl)) own_nk0 D_v2.1.ne_nan (by decide) (own_pv0 (by decide)) g_b10 (Ne.symm ne_b10_b2_11) (Ne.symm ne_b10_b4_11) (Ne.symm ne_b10_b6_11) g_b6_11 ne_b2_11_b6_11 ne_b4_11_b6_11 g_b2_11 (Ne.symm ne_b2_11_b4_11) g_b4_11) eH11 (by rw [hml]; rfl) (a := b10) E_b10 (argsL := [(.int (0 : Int32)), (.double v2)]) rfl (lenOf pd_3 rfl) rfl at_46 (pc' := 49) rfl (by decide) (W := 0) (Nat.le_of_eq rfl) (by decide) (by decide) (by decide) (fun T12 h12 Lc12 v12r X12 eH12 hQ12 => ?_)
  obtain ⟨rfl, Nq12, Kq12, gq12_0, gq12_1, gq12_2, gq12_3, gq12_4, gq12_5, gq12_6, gq12_7, gq12_8, gq12_9, gq12_10⟩ := hQ12
  have N12 := Fr.app N11 Nq12
  replace E_b1 := E_b1.keep Kq12
  replace V_b1 := V_b1.keep Kq12 (ninS ne_b1_b10 (ninS ne_b1_b6_11 (ninS ne_b1_b2_11 (ninS ne_b1_b4_11 nin0))))
  replace E_b10 := E_b10.keep Kq12
  replace E_b2_11 := E_b2_11.keep Kq12
  replace E_b4_11 := E_b4_11.keep Kq12
  replace E_b6_11 := E_b6_11.keep Kq12
  have E_b10 := gq12_0
  have F_b10_heap := gq12_1
  have F_b10_position := gq12_2
  have F_b10_key := gq12_3
  have F_b10_size := gq12_4
  have hl13 : ([(0 : UInt64), (0 : UInt64), (0 : UInt64), (0 : UInt64)].set (0 : Int32).toNatClampNeg v2).length = 4 := by (repeat' split) <;> (simp only [List.length_set]; first | assumption | rfl)
  obtain ⟨L14, q_L14⟩ : ∃ z, ([(0 : UInt64), (0 : UInt64), (0 : UInt64), (0 : UInt64)].set (0 : Int32).toNatClampNeg v2) = z := ⟨_, rfl⟩
  rw [q_L14] at gq12_5 hl13
  have V_b6_11 := gq12_5
  have V_b2_11 := gq12_6
  have hl15 : ([(-1 : Int32), (-1 : Int32), (-1 : Int32), (-1 : Int32)].set (0 : Int32).toNatClampNeg (0 : Int32)).length = 4 := by (repeat' split) <;> (simp only [List.length_set]; first | assumption | rfl)
  obtain ⟨L16, q_L16⟩ : ∃ z, ([(-1 : Int32), (-1 : Int32), (-1 : Int32), (-1 : Int32)].set (0 : Int32).toNatClampNeg (0 : Int32)) = z := ⟨_, rfl⟩
  rw [q_L16] at gq12_7 hl15
  have V_b4_11 := gq12_7
  have hp_12 : Hp1 (0 : Int32) L16 L14 := by rw [← q_L14, ← q_L16]; exact gq12_8
  have nnk_12 : NNk L14 := by rw [← q_L14]; exact gq12_9
  have ab_12 : ∀ z : Int32, (0 ≤ z.toInt ∧ z.toInt < 4) → ¬ (0 : Int32).toInt = z.toInt → pv [(-1 : Int32), (-1 : Int32), (-1 : Int32), (-1 : Int32)] z = -1 → pv L16 z = -1 := by rw [← q_L16]; exact gq12_10
  replace Z0 := Nat.le_trans Z0 Kq12.1
  as_aux_lemma =>
    refine own_aload X12 hx hby rfl rfl at_49 (pc' := 51) rfl ?_
    refine own_iconst X12 hx hby (v := (1 : Int32)) (by decide) at_51 (pc' := 52) rfl ?_
    refine own_aload X12 hx hby rfl rfl at_52 (pc' := 54) rfl ?_
    refine own_iconst X12 hx hby (v := (1 : Int32)) (by decide) at_54 (pc' := 55) rfl ?_
    refine own_daload X12 hx hby hZ eH12 V_b1 (by decide) (v := (.double v4)) rfl at_55 (pc' := 56) rfl ?_
    refine own_virtual X12 hx hby hZ (y := (⟨"com/example/cross_town/crosstown/solve/NodeHeap", "insertOrLower", "(ID)V"⟩ : MethodName)) (y' := (⟨"com/example/cross_town/crosstown/solve/NodeHeap", "insertOrLower", "(ID)V"⟩ : MethodName)) (C := "com/example/cross_town/crosstown/solve/NodeHeap") (rest := []) hown (hw _ (List.mem_of_getElem? (i := 21) rfl)) (hw _ (List.mem_of_getElem? (i := 22) rfl)) (notFace_of_selects (args := #[]) (mvT hZ (hw _ (List.mem_of_getElem? (i := 24) rfl)))) (hw _ (List.mem_of_getElem? (i := 24) rfl)) (hw _ (List.mem_of_getElem? (i := 23) rfl)) (hw _ (List.mem_of_getElem? (i := 25) rfl)) (hw _ (List.mem_of_getElem? (i := 3) rfl)) (by decide) (rm4n1 l Z a0 hw [] b10 (1 : Int32) v4 b2_11 b4_11 b6_11 (0 : Int32) (0 : Int32) (0 : Int32) (0 : Int32) L16 L14 h12 n0 Z0 E_b10 F_b10_heap F_b10_position F_b10_key F_b10_size V_b2_11 V_b4_11 (by first | assumption | rfl | (simp only [List.length_set]; first | assumption | rfl)) V_b6_11 (by first | assumption | rfl | (simp only [List.length_set]; first | assumption | rfl)) nnk_12 D_v4.1.ne_nan (by decide) (ab_12 (1 : Int32) (by decide) (by decide) (own_pv0 (by decide))) hp_12 g_b10 (Ne.symm ne_b10_b2_11) (Ne.symm ne_b10_b4_11) (Ne.symm ne_b10_b6_11) g_b6_11 ne_b2_11_b6_11 ne_b4_11_b6_11 g_b2_11 (Ne.symm ne_b2_11_b4_11) g_b4_11) eH12 (by rw [hml]; rfl) (a := b10) E_b10 (argsL := [(.int (1 : Int32)), (.double v4)]) rfl (lenOf pd_3 rfl) rfl at_56 (pc' := 59) rfl (by decide) (W := 0) (Nat.le_of_eq rfl) (by decide) (by decide) (by decide) (fun T17 h17 Lc17 v17r X17 eH17 hQ17 => ?_)
    obtain ⟨rfl, Nq17, Kq17, gq17_0, gq17_1, gq17_2, gq17_3, gq17_4, gq17_5, gq17_6, gq17_7, gq17_8, gq17_9, gq17_10⟩ := hQ17
    have N17 := Fr.app N12 Nq17
    replace E_b1 := E_b1.keep Kq17
    replace V_b1 := V_b1.keep Kq17 (ninS ne_b1_b10 (ninS ne_b1_b6_11 (ninS ne_b1_b2_11 (ninS ne_b1_b4_11 nin0))))
    replace E_b10 := E_b10.keep Kq17
    replace E_b2_11 := E_b2_11.keep Kq17
    replace E_b4_11 := E_b4_11.keep Kq17
    replace E_b6_11 := E_b6_11.keep Kq17
    have E_b10 := gq17_0
    have F_b10_heap := gq17_1
    have F_b10_position := gq17_2
    have F_b10_key := gq17_3
    have F_b10_size := gq17_4
    have hl18 : (L14.set (1 : Int32).toNatClampNeg v4).length = 4 := by (repeat' split) <;> (simp only [List.length_set]; first | assumption | rfl)
    obtain ⟨L19, q_L19⟩ : ∃ z, (L14.set (1 : Int32).toNatClampNeg v4) = z := ⟨_, rfl⟩
    rw [q_L19] at gq17_5 hl18
    have V_b6_11 := gq17_5
    obtain ⟨n20, q_n20⟩ : ∃ z : Int32, (if dle ((L14.set (1 : Int32).toNatClampNeg v4).getD (0 : Int32).toNatClampNeg 0) ((L14.set (1 : Int32).toNatClampNeg v4).getD (1 : Int32).toNatClampNeg 0) then (0 : Int32) else (1 : Int32)) = z := ⟨_, rfl⟩
    obtain ⟨n21, q_n21⟩ : ∃ z : Int32, (if dle ((L14.set (1 : Int32).toNatClampNeg v4).getD (0 : Int32).toNatClampNeg 0) ((L14.set (1 : Int32).toNatClampNeg v4).getD (1 : Int32).toNatClampNeg 0) then (1 : Int32) else (0 : Int32)) = z := ⟨_, rfl⟩
    have V_b2_11 : Ary tr Z h17 b2_11 .int [(.int n20), (.int n21), (.int (0 : Int32)), (.int (0 : Int32))] := by rw [← q_n20, ← q_n21]; exact gq17_6
    have hl22 : (if dle ((L14.set (1 : Int32).toNatClampNeg v4).getD (0 : Int32).toNatClampNeg 0) ((L14.set (1 : Int32).toNatClampNeg v4).getD (1 : Int32).toNatClampNeg 0) then (L16.set (1 : Int32).toNatClampNeg (1 : Int32)) else ((L16.set (0 : Int32).toNatClampNeg (1 : Int32)).set (1 : Int32).toNatClampNeg (0 : Int32))).length = 4 := by (repeat' split) <;> (simp only [List.length_set]; first | assumption | rfl)
    obtain ⟨L23, q_L23⟩ : ∃ z, (if dle ((L14.set (1 : Int32).toNatClampNeg v4).getD (0 : Int32).toNatClampNeg 0) ((L14.set (1 : Int32).toNatClampNeg v4).getD (1 : Int32).toNatClampNeg 0) then (L16.set (1 : Int32).toNatClampNeg (1 : Int32)) else ((L16.set (0 : Int32).toNatClampNeg (1 : Int32)).set (1 : Int32).toNatClampNeg (0 : Int32))) = z := ⟨_, rfl⟩
    rw [q_L23] at gq17_7 hl22
    have V_b4_11 := gq17_7
    have hp_17 : Hp2 n20 n21 L23 L19 := by rw [← q_L19, ← q_n21, ← q_n20, ← q_L23]; exact gq17_8
    have nnk_17 : NNk L19 := by rw [← q_L19]; exact gq17_9
    have ab_17 : ∀ z : Int32, (0 ≤ z.toInt ∧ z.toInt < 4) → ¬ (1 : Int32).toInt = z.toInt → pv L16 z = -1 → pv L23 z = -1 := by rw [← q_L23]; exact gq17_10
    replace Z0 := Nat.le_trans Z0 Kq17.1
    refine own_aload X17 hx hby rfl rfl at_59 (pc' := 61) rfl ?_
    refine own_iconst X17 hx hby (v := (2 : Int32)) (by decide) at_61 (pc' := 62) rfl ?_
    refine own_aload X17 hx hby rfl rfl at_62 (pc' := 64) rfl ?_
    refine own_iconst X17 hx hby (v := (2 : Int32)) (by decide) at_64 (pc' := 65) rfl ?_
    refine own_daload X17 hx hby hZ eH17 V_b1 (by decide) (v := (.double v6)) rfl at_65 (pc' := 66) rfl ?_
    refine own_virtual X17 hx hby hZ (y := (⟨"com/example/cross_town/crosstown/solve/NodeHeap", "insertOrLower", "(ID)V"⟩ : MethodName)) (y' := (⟨"com/example/cross_town/crosstown/solve/NodeHeap", "insertOrLower", "(ID)V"⟩ : MethodName)) (C := "com/example/cross_town/crosstown/solve/NodeHeap") (rest := []) hown (hw _ (List.mem_of_getElem? (i := 21) rfl)) (hw _ (List.mem_of_getElem? (i := 22) rfl)) (notFace_of_selects (args := #[]) (mvT hZ (hw _ (List.mem_of_getElem? (i := 24) rfl)))) (hw _ (List.mem_of_getElem? (i := 24) rfl)) (hw _ (List.mem_of_getElem? (i := 23) rfl)) (hw _ (List.mem_of_getElem? (i := 25) rfl)) (hw _ (List.mem_of_getElem? (i := 3) rfl)) (by decide) (rm4n2 l Z a0 hw [] b10 (2 : Int32) v6 b2_11 b4_11 b6_11 n20 n21 (0 : Int32) (0 : Int32) L23 L19 h17 n0 Z0 E_b10 F_b10_heap F_b10_position F_b10_key F_b10_size V_b2_11 V_b4_11 (by first | assumption | rfl | (simp only [List.length_set]; first | assumption | rfl)) V_b6_11 (by first | assumption | rfl | (simp only [List.length_set]; first | assumption | rfl)) nnk_17 D_v6.1.ne_nan (by decide) (ab_17 (2 : Int32) (by decide) (by decide) (ab_12 (2 : Int32) (by decide) (by decide) (own_pv0 (by decide)))) hp_17 g_b10 (Ne.symm ne_b10_b2_11) (Ne.symm ne_b10_b4_11) (Ne.symm ne_b10_b6_11) g_b6_11 ne_b2_11_b6_11 ne_b4_11_b6_11 g_b2_11 (Ne.symm ne_b2_11_b4_11) g_b4_11) eH17 (by rw [hml]; rfl) (a := b10) E_b10 (argsL := [(.int (2 : Int32)), (.double v6)]) rfl (lenOf pd_3 rfl) rfl at_66 (pc' := 69) rfl (by decide) (W := 0) (Nat.le_of_eq rfl) (by decide) (by decide) (by decide) (fun T24 h24 Lc24 v24r X24 eH24 hQ24 => ?_)
    obtain ⟨rfl, Nq24, Kq24, gq24_0, gq24_1, gq24_2, gq24_3, gq24_4, gq24_5, gq24_6, gq24_7, gq24_8, gq24_9, gq24_10⟩ := hQ24
    have N24 := Fr.app N17 Nq24
    replace E_b1 := E_b1.keep Kq24
    replace V_b1 := V_b1.keep Kq24 (ninS ne_b1_b10 (ninS ne_b1_b6_11 (ninS ne_b1_b2_11 (ninS ne_b1_b4_11 nin0))))
    replace E_b10 := E_b10.keep Kq24
    replace E_b2_11 := E_b2_11.keep Kq24
    replace E_b4_11 := E_b4_11.keep Kq24
    replace E_b6_11 := E_b6_11.keep Kq24
    have E_b10 := gq24_0
    have F_b10_heap := gq24_1
    have F_b10_position := gq24_2
    have F_b10_key := gq24_3
    have F_b10_size := gq24_4
    have hl25 : (L19.set (2 : Int32).toNatClampNeg v6).length = 4 := by (repeat' split) <;> (simp only [List.length_set]; first | assumption | rfl)
    obtain ⟨L26, q_L26⟩ : ∃ z, (L19.set (2 : Int32).toNatClampNeg v6) = z := ⟨_, rfl⟩
    rw [q_L26] at gq24_5 hl25
    have V_b6_11 := gq24_5
    obtain ⟨n27, q_n27⟩ : ∃ z : Int32, (if dle ((L19.set (2 : Int32).toNatClampNeg v6).getD n20.toNatClampNeg 0) ((L19.set (2 : Int32).toNatClampNeg v6).getD (2 : Int32).toNatClampNeg 0) then n20 else (2 : Int32)) = z := ⟨_, rfl⟩
    obtain ⟨n28, q_n28⟩ : ∃ z : Int32, (if dle ((L19.set (2 : Int32).toNatClampNeg v6).getD n20.toNatClampNeg 0) ((L19.set (2 : Int32).toNatClampNeg v6).getD (2 : Int32).toNatClampNeg 0) then (2 : Int32) else n20) = z := ⟨_, rfl⟩
    have V_b2_11 : Ary tr Z h24 b2_11 .int [(.int n27), (.int n21), (.int n28), (.int (0 : Int32))] := by rw [← q_n27, ← q_n28]; exact gq24_6
    have hl29 : (if dle ((L19.set (2 : Int32).toNatClampNeg v6).getD n20.toNatClampNeg 0) ((L19.set (2 : Int32).toNatClampNeg v6).getD (2 : Int32).toNatClampNeg 0) then (L23.set (2 : Int32).toNatClampNeg (2 : Int32)) else ((L23.set n20.toNatClampNeg (2 : Int32)).set (2 : Int32).toNatClampNeg (0 : Int32))).length = 4 := by (repeat' split) <;> (simp only [List.length_set]; first | assumption | rfl)
    obtain ⟨L30, q_L30⟩ : ∃ z, (if dle ((L19.set (2 : Int32).toNatClampNeg v6).getD n20.toNatClampNeg 0) ((L19.set (2 : Int32).toNatClampNeg v6).getD (2 : Int32).toNatClampNeg 0) then (L23.set (2 : Int32).toNatClampNeg (2 : Int32)) else ((L23.set n20.toNatClampNeg (2 : Int32)).set (2 : Int32).toNatClampNeg (0 : Int32))) = z := ⟨_, rfl⟩
    rw [q_L30] at gq24_7 hl29
    have V_b4_11 := gq24_7
    have hp_24 : Hp3 n27 n21 n28 L30 L26 := by rw [← q_L26, ← q_n28, ← q_n27, ← q_L30]; exact gq24_8
    have nnk_24 : NNk L26 := by rw [← q_L26]; exact gq24_9
    have ab_24 : ∀ z : Int32, (0 ≤ z.toInt ∧ z.toInt < 4) → ¬ (2 : Int32).toInt = z.toInt → pv L23 z = -1 → pv L30 z = -1 := by rw [← q_L30]; exact gq24_10
    replace Z0 := Nat.le_trans Z0 Kq24.1
    refine own_aload X24 hx hby rfl rfl at_69 (pc' := 71) rfl ?_
    refine own_iconst X24 hx hby (v := (3 : Int32)) (by decide) at_71 (pc' := 72) rfl ?_
    refine own_aload X24 hx hby rfl rfl at_72 (pc' := 74) rfl ?_
    refine own_iconst X24 hx hby (v := (3 : Int32)) (by decide) at_74 (pc' := 75) rfl ?_
    refine own_daload X24 hx hby hZ eH24 V_b1 (by decide) (v := (.double v8)) rfl at_75 (pc' := 76) rfl ?_
    refine own_virtual X24 hx hby hZ (y := (⟨"com/example/cross_town/crosstown/solve/NodeHeap", "insertOrLower", "(ID)V"⟩ : MethodName)) (y' := (⟨"com/example/cross_town/crosstown/solve/NodeHeap", "insertOrLower", "(ID)V"⟩ : MethodName)) (C := "com/example/cross_town/crosstown/solve/NodeHeap") (rest := []) hown (hw _ (List.mem_of_getElem? (i := 21) rfl)) (hw _ (List.mem_of_getElem? (i := 22) rfl)) (notFace_of_selects (args := #[]) (mvT hZ (hw _ (List.mem_of_getElem? (i := 24) rfl)))) (hw _ (List.mem_of_getElem? (i := 24) rfl)) (hw _ (List.mem_of_getElem? (i := 23) rfl)) (hw _ (List.mem_of_getElem? (i := 25) rfl)) (hw _ (List.mem_of_getElem? (i := 3) rfl)) (by decide) (rm4n3 l Z a0 hw [] b10 (3 : Int32) v8 b2_11 b4_11 b6_11 n27 n21 n28 (0 : Int32) L30 L26 h24 n0 Z0 E_b10 F_b10_heap F_b10_position F_b10_key F_b10_size V_b2_11 V_b4_11 (by first | assumption | rfl | (simp only [List.length_set]; first | assumption | rfl)) V_b6_11 (by first | assumption | rfl | (simp only [List.length_set]; first | assumption | rfl)) nnk_24 D_v8.1.ne_nan (by decide) (ab_24 (3 : Int32) (by decide) (by decide) (ab_17 (3 : Int32) (by decide) (by decide) (ab_12 (3 : Int32) (by decide) (by decide) (own_pv0 (by decide))))) hp_24 g_b10 (Ne.symm ne_b10_b2_11) (Ne.symm ne_b10_b4_11) (Ne.symm ne_b10_b6_11) g_b6_11 ne_b2_11_b6_11 ne_b4_11_b6_11 g_b2_11 (Ne.symm ne_b2_11_b4_11) g_b4_11) eH24 (by rw [hml]; rfl) (a := b10) E_b10 (argsL := [(.int (3 : Int32)), (.double v8)]) rfl (lenOf pd_3 rfl) rfl at_76 (pc' := 79) rfl (by decide) (W := 0) (Nat.le_of_eq rfl) (by decide) (by decide) (by decide) (fun T31 h31 Lc31 v31r X31 eH31 hQ31 => ?_)
    obtain ⟨rfl, Nq31, Kq31, gq31_0, gq31_1, gq31_2, gq31_3, gq31_4, gq31_5, gq31_6, gq31_7, gq31_8, gq31_9, gq31_10⟩ := hQ31
    have N31 := Fr.app N24 Nq31
    replace E_b1 := E_b1.keep Kq31
    replace V_b1 := V_b1.keep Kq31 (ninS ne_b1_b10 (ninS ne_b1_b6_11 (ninS ne_b1_b2_11 (ninS ne_b1_b4_11 nin0))))
    replace E_b10 := E_b10.keep Kq31
    replace E_b2_11 := E_b2_11.keep Kq31
    replace E_b4_11 := E_b4_11.keep Kq31
    replace E_b6_11 := E_b6_11.keep Kq31
    have E_b10 := gq31_0
    have F_b10_heap := gq31_1
    have F_b10_position := gq31_2
    have F_b10_key := gq31_3
    have F_b10_size := gq31_4
    have hl32 : (L26.set (3 : Int32).toNatClampNeg v8).length = 4 := by (repeat' split) <;> (simp only [List.length_set]; first | assumption | rfl)
    obtain ⟨L33, q_L33⟩ : ∃ z, (L26.set (3 : Int32).toNatClampNeg v8) = z := ⟨_, rfl⟩
    rw [q_L33] at gq31_5 hl32
    have V_b6_11 := gq31_5
    obtain ⟨n34, q_n34⟩ : ∃ z : Int32, (if dle ((L26.set (3 : Int32).toNatClampNeg v8).getD n21.toNatClampNeg 0) ((L26.set (3 : Int32).toNatClampNeg v8).getD (3 : Int32).toNatClampNeg 0) then n27 else (if dle ((L26.set (3 : Int32).toNatClampNeg v8).getD n27.toNatClampNeg 0) ((L26.set (3 : Int32).toNatClampNeg v8).getD (3 : Int32).toNatClampNeg 0) then n27 else (3 : Int32))) = z := ⟨_, rfl⟩
    obtain ⟨n35, q_n35⟩ : ∃ z : Int32, (if dle ((L26.set (3 : Int32).toNatClampNeg v8).getD n21.toNatClampNeg 0) ((L26.set (3 : Int32).toNatClampNeg v8).getD (3 : Int32).toNatClampNeg 0) then n21 else (if dle ((L26.set (3 : Int32).toNatClampNeg v8).getD n27.toNatClampNeg 0) ((L26.set (3 : Int32).toNatClampNeg v8).getD (3 : Int32).toNatClampNeg 0) then (3 : Int32) else n27)) = z := ⟨_, rfl⟩
    obtain ⟨n36, q_n36⟩ : ∃ z : Int32, (if dle ((L26.set (3 : Int32).toNatClampNeg v8).getD n21.toNatClampNeg 0) ((L26.set (3 : Int32).toNatClampNeg v8).getD (3 : Int32).toNatClampNeg 0) then (3 : Int32) else (if dle ((L26.set (3 : Int32).toNatClampNeg v8).getD n27.toNatClampNeg 0) ((L26.set (3 : Int32).toNatClampNeg v8).getD (3 : Int32).toNatClampNeg 0) then n21 else n21)) = z := ⟨_, rfl⟩
    have V_b2_11 : Ary tr Z h31 b2_11 .int [(.int n34), (.int n35), (.int n28), (.int n36)] := by rw [← q_n34, ← q_n35, ← q_n36]; exact gq31_6
    have hl37 : (if dle ((L26.set (3 : Int32).toNatClampNeg v8).getD n21.toNatClampNeg 0) ((L26.set (3 : Int32).toNatClampNeg v8).getD (3 : Int32).toNatClampNeg 0) then (L30.set (3 : Int32).toNatClampNeg (3 : Int32)) else (if dle ((L26.set (3 : Int32).toNatClampNeg v8).getD n27.toNatClampNeg 0) ((L26.set (3 : Int32).toNatClampNeg v8).getD (3 : Int32).toNatClampNeg 0) then ((L30.set n21.toNatClampNeg (3 : Int32)).set (3 : Int32).toNatClampNeg (1 : Int32)) else (((L30.set n21.toNatClampNeg (3 : Int32)).set n27.toNatClampNeg (1 : Int32)).set (3 : Int32).toNatClampNeg (0 : Int32)))).length = 4 := by (repeat' split) <;> (simp only [List.length_set]; first | assumption | rfl)
    obtain ⟨L38, q_L38⟩ : ∃ z, (if dle ((L26.set (3 : Int32).toNatClampNeg v8).getD n21.toNatClampNeg 0) ((L26.set (3 : Int32).toNatClampNeg v8).getD (3 : Int32).toNatClampNeg 0) then (L30.set (3 : Int32).toNatClampNeg (3 : Int32)) else (if dle ((L26.set (3 : Int32).toNatClampNeg v8).getD n27.toNatClampNeg 0) ((L26.set (3 : Int32).toNatClampNeg v8).getD (3 : Int32).toNatClampNeg 0) then ((L30.set n21.toNatClampNeg (3 : Int32)).set (3 : Int32).toNatClampNeg (1 : Int32)) else (((L30.set n21.toNatClampNeg (3 : Int32)).set n27.toNatClampNeg (1 : Int32)).set (3 : Int32).toNatClampNeg (0 : Int32)))) = z := ⟨_, rfl⟩
    rw [q_L38] at gq31_7 hl37
    have V_b4_11 := gq31_7
    have hp_31 : Hp4 n34 n35 n28 n36 L38 L33 := by rw [← q_L33, ← q_n36, ← q_n35, ← q_n34, ← q_L38]; exact gq31_8
    have nnk_31 : NNk L33 := by rw [← q_L33]; exact gq31_9
    have ab_31 : ∀ z : Int32, (0 ≤ z.toInt ∧ z.toInt < 4) → ¬ (3 : Int32).toInt = z.toInt → pv L30 z = -1 → pv L38 z = -1 := by rw [← q_L38]; exact gq31_10
    replace Z0 := Nat.le_trans Z0 Kq31.1
    obtain ⟨DD, q_DD⟩ : ∃ z : List UInt64, [v2, v4, v6, v8] = z := ⟨_, rfl⟩
    have hlD : DD.length = 4 := by rw [← q_DD]; rfl
    have V_b1 : Ary tr Z h31 b1 .double (DD.map Value.double) := by rw [← q_DD]; exact V_b1
    have eK : L33 = DD := by rw [← q_L33, ← q_L26, ← q_L19, ← q_L14, ← q_DD, own_t0, own_t1, own_t2, own_t3]; rfl
    have R4 : Rel L33 DD := by rw [eK]; exact fun z _ => rfl
    have nD4 : NNk DD := by rw [← q_DD]; exact own_dnn D_v2.1.ne_nan D_v4.1.ne_nan D_v6.1.ne_nan D_v8.1.ne_nan
    refine own_iload X31 hx hby rfl at_79 (pc' := 81) rfl ?_
    refine own_iconst X31 hx hby (v := (3 : Int32)) (by decide) at_81 (pc' := 82) rfl ?_
    refine own_iand X31 hx hby rfl at_82 (pc' := 83) rfl ?_
    generalize q_n39 : (p4 &&& (3 : Int32)) = n39
    refine own_istore X31 hx hby (L' := #[.val (.int p0), .val (.int p1), .val (.int p2), .val (.int p3), .val (.int p4), .val (.int p5), .val (.ref b1), .val (.ref b10), .val (.int n39), .unset, .unset, .unset, .unset, .unset, .unset, .unset, .unset]) rfl at_83 (pc' := 85) rfl ?_
    rcases own_pig hp_31 (own_m3 q_n39) with rfl | rfl | rfl | rfl
    · have rg_n34 := own_m3 q_n39
      refine own_aload X31 hx hby rfl rfl at_85 (pc' := 87) rfl ?_
      refine own_iload X31 hx hby rfl at_87 (pc' := 89) rfl ?_
      refine own_daload X31 hx hby hZ eH31 V_b1 (own_rg0 rg_n34) (v := (.double (DD.getD n34.toNatClampNeg 0))) (own_lget (own_rgl rg_n34 hlD)) at_89 (pc' := 90) rfl ?_
      refine own_iload X31 hx hby rfl at_90 (pc' := 92) rfl ?_
      as_aux_lemma =>
        refine own_ldcI X31 hx hby hZ hown (hw _ (List.mem_of_getElem? (i := 36) rfl)) at_92 (pc' := 94) rfl ?_
        refine own_iand X31 hx hby rfl at_94 (pc' := 95) rfl ?_
        obtain ⟨v40, q_v40⟩ : ∃ z : UInt64, (FP.i2d (p5 &&& (2147483647 : Int32))) = z := ⟨_, rfl⟩
        have D_v40 : Dy v40 (p5 &&& (2147483647 : Int32)).toInt 0 := q_v40 ▸ dy_i2d (p5 &&& (2147483647 : Int32))
        refine own_i2d X31 hx hby q_v40 at_95 (pc' := 96) rfl ?_
        obtain ⟨v41, q_v41⟩ : ∃ z : UInt64, (FP.dsub (DD.getD n34.toNatClampNeg 0) v40) = z := ⟨_, rfl⟩
        obtain ⟨e8, De8⟩ : ∃ e : Int32, Dy (DD.getD n34.toNatClampNeg 0) e.toInt 0 := by rw [← q_DD]; exact own_dg D_v2 D_v4 D_v6 D_v8 rg_n34
        have D_v41 := De8.sub D_v40 (by have := rng32 e8; have := own_m31 p5; omega) (by omega)
        rw [q_v41] at D_v41
        have nn_v41 := D_v41.nn
        have low : zv v41 ≤ zv (DD.getD n34.toNatClampNeg 0) := (Dy.zle D_v41 De8).1.mpr (by have := own_m31 p5; omega)
        refine own_dsub X31 hx hby (by rw [q_v41]; exact nn_v41) q_v41 at_96 (pc' := 97) rfl ?_
        refine own_dstore X31 hx hby (L' := #[.val (.int p0), .val (.int p1), .val (.int p2), .val (.int p3), .val (.int p4), .val (.int p5), .val (.ref b1), .val (.ref b10), .val (.int n34), .val (.double v41), .second, .unset, .unset, .unset, .unset, .unset, .unset]) rfl at_97 (pc' := 99) rfl ?_
        refine own_aload X31 hx hby rfl rfl at_99 (pc' := 101) rfl ?_
        refine own_iload X31 hx hby rfl at_101 (pc' := 103) rfl ?_
        refine own_dload X31 hx hby rfl at_103 (pc' := 105) rfl ?_
        refine own_dastore X31 hx hby hZ eH31 V_b1 (own_rg0 rg_n34) (n := n34.toNatClampNeg) rfl (by rw [List.length_map]; exact own_rgl rg_n34 hlD) at_105 (pc' := 106) rfl (fun T42 h42 X42 eH42 W42 => ?_)
        replace E_b1 := E_b1.wr W42
        replace E_b10 := E_b10.wr W42
        replace F_b10_heap := F_b10_heap.other W42 (Or.inl (Ne.symm ne_b1_b10))
        replace F_b10_position := F_b10_position.other W42 (Or.inl (Ne.symm ne_b1_b10))
        replace F_b10_key := F_b10_key.other W42 (Or.inl (Ne.symm ne_b1_b10))
        replace F_b10_size := F_b10_size.other W42 (Or.inl (Ne.symm ne_b1_b10))
        replace E_b2_11 := E_b2_11.wr W42
        replace V_b2_11 := V_b2_11.other W42 (Ne.symm ne_b1_b2_11)
        replace E_b4_11 := E_b4_11.wr W42
        replace V_b4_11 := V_b4_11.other W42 (Ne.symm ne_b1_b4_11)
        replace E_b6_11 := E_b6_11.wr W42
        replace V_b6_11 := V_b6_11.other W42 (Ne.symm ne_b1_b6_11)
        have N42 := Fr.snoc X42 N31 g_b1
        replace Z0 := Nat.le_trans Z0 (Nat.le_of_eq W42.size.symm)
        have hl43 : (DD.set n34.toNatClampNeg v41).length = 4 := by rw [List.length_set]; exact hlD
        replace V_b1 : Ary tr Z h42 b1 .double ((DD.set n34.toNatClampNeg v41).map Value.double) := by rw [List.map_set]; exact V_b1.set W42
        refine own_aload X42 hx hby rfl rfl at_106 (pc' := 108) rfl ?_
        refine own_iload X42 hx hby rfl at_108 (pc' := 110) rfl ?_
        refine own_dload X42 hx hby rfl at_110 (pc' := 112) rfl ?_
        refine own_virtual X42 hx hby hZ (y := (⟨"com/example/cross_town/crosstown/solve/NodeHeap", "insertOrLower", "(ID)V"⟩ : MethodName)) (y' := (⟨"com/example/cross_town/crosstown/solve/NodeHeap", "insertOrLower", "(ID)V"⟩ : MethodName)) (C := "com/example/cross_town/crosstown/solve/NodeHeap") (rest := []) hown (hw _ (List.mem_of_getElem? (i := 21) rfl)) (hw _ (List.mem_of_getElem? (i := 22) rfl)) (notFace_of_selects (args := #[]) (mvT hZ (hw _ (List.mem_of_getElem? (i := 24) rfl)))) (hw _ (List.mem_of_getElem? (i := 24) rfl)) (hw _ (List.mem_of_getElem? (i := 23) rfl)) (hw _ (List.mem_of_getElem? (i := 25) rfl)) (hw _ (List.mem_of_getElem? (i := 3) rfl)) (by decide) (rm4l40 l Z a0 hw [] b10 n34 v41 b2_11 b4_11 b6_11 n35 n28 n36 L38 L33 h42 n0 Z0 E_b10 F_b10_heap F_b10_position F_b10_key F_b10_size V_b2_11 V_b4_11 (by first | assumption | rfl | (simp only [List.length_set]; first | assumption | rfl)) V_b6_11 (by first | assumption | rfl | (simp only [List.length_set]; first | assumption | rfl)) nnk_31 D_v41.1.ne_nan hp_31 (by rw [R4 n34 rg_n34]; exact low) g_b6_11 ne_b10_b6_11 ne_b2_11_b6_11 ne_b4_11_b6_11 g_b2_11 ne_b10_b2_11 (Ne.symm ne_b2_11_b4_11) g_b4_11 ne_b10_b4_11) eH42 (by rw [hml]; rfl) (a := b10) E_b10 (argsL := [(.int n34), (.double v41)]) rfl (lenOf pd_3 rfl) rfl at_112 (pc' := 115) rfl (by decide) (W := 0) (Nat.le_of_eq rfl) (by decide) (by decide) (by decide) (fun T44 h44 Lc44 v44r X44 eH44 hQ44 => ?_)
        obtain ⟨rfl, Nq44, Kq44, gq44_0, gq44_1, gq44_2, gq44_3, gq44_4⟩ := hQ44
        have N44 := Fr.app N42 Nq44
        replace E_b1 := E_b1.keep Kq44
        replace V_b1 := V_b1.keep Kq44 (ninS ne_b1_b6_11 (ninS ne_b1_b2_11 (ninS ne_b1_b4_11 nin0)))
        replace E_b10 := E_b10.keep Kq44
        replace F_b10_heap := F_b10_heap.keep Kq44 (ninS ne_b10_b6_11 (ninS ne_b10_b2_11 (ninS ne_b10_b4_11 nin0)))
        replace F_b10_position := F_b10_position.keep Kq44 (ninS ne_b10_b6_11 (ninS ne_b10_b2_11 (ninS ne_b10_b4_11 nin0)))
        replace F_b10_key := F_b10_key.keep Kq44 (ninS ne_b10_b6_11 (ninS ne_b10_b2_11 (ninS ne_b10_b4_11 nin0)))
        replace F_b10_size := F_b10_size.keep Kq44 (ninS ne_b10_b6_11 (ninS ne_b10_b2_11 (ninS ne_b10_b4_11 nin0)))
        replace E_b2_11 := E_b2_11.keep Kq44
        replace E_b4_11 := E_b4_11.keep Kq44
        replace E_b6_11 := E_b6_11.keep Kq44
        have hl45 : (L33.set n34.toNatClampNeg v41).length = 4 := by (repeat' split) <;> (simp only [List.length_set]; first | assumption | rfl)
        obtain ⟨L46, q_L46⟩ : ∃ z, (L33.set n34.toNatClampNeg v41) = z := ⟨_, rfl⟩
        rw [q_L46] at gq44_0 hl45
        have V_b6_11 := gq44_0
        have V_b2_11 := gq44_1
        have hl47 : (L38.set n34.toNatClampNeg (0 : Int32)).length = 4 := by (repeat' split) <;> (simp only [List.length_set]; first | assumption | rfl)
        obtain ⟨L48, q_L48⟩ : ∃ z, (L38.set n34.toNatClampNeg (0 : Int32)) = z := ⟨_, rfl⟩
        rw [q_L48] at gq44_2 hl47
        have V_b4_11 := gq44_2
        have hp_44 : Hp4 n34 n35 n28 n36 L48 L46 := by rw [← q_L46, ← q_L48]; exact gq44_3
        have nnk_44 : NNk L46 := by rw [← q_L46]; exact gq44_4
        replace Z0 := Nat.le_trans Z0 Kq44.1
        have R5 : Rel L46 (DD.set n34.toNatClampNeg v41) := by rw [← q_L46]; exact own_relset R4 rg_n34 hl32 hlD
        have nD5 : NNk (DD.set n34.toNatClampNeg v41) := own_nnk nD4 D_v41.1.ne_nan (own_rgl rg_n34 hlD)
        refine own_aload X44 hx hby rfl rfl at_115 (pc' := 117) rfl ?_
        refine own_virtual X44 hx hby hZ (y := (⟨"com/example/cross_town/crosstown/solve/NodeHeap", "poll", "()I"⟩ : MethodName)) (y' := (⟨"com/example/cross_town/crosstown/solve/NodeHeap", "poll", "()I"⟩ : MethodName)) (C := "com/example/cross_town/crosstown/solve/NodeHeap") (rest := []) hown (hw _ (List.mem_of_getElem? (i := 37) rfl)) (hw _ (List.mem_of_getElem? (i := 38) rfl)) (notFace_of_selects (args := #[]) (mvT hZ (hw _ (List.mem_of_getElem? (i := 40) rfl)))) (hw _ (List.mem_of_getElem? (i := 40) rfl)) (hw _ (List.mem_of_getElem? (i := 39) rfl)) (hw _ (List.mem_of_getElem? (i := 41) rfl)) (hw _ (List.mem_of_getElem? (i := 3) rfl)) (by decide) (rm74 l Z a0 hw [] b10 b2_11 b4_11 b6_11 n34 n35 n28 n36 L48 L46 h44 n0 Z0 E_b10 F_b10_heap F_b10_position F_b10_key V_b2_11 V_b4_11 (by first | assumption | rfl | (simp only [List.length_set]; first | assumption | rfl)) V_b6_11 (by first | assumption | rfl | (simp only [List.length_set]; first | assumption | rfl)) F_b10_size nnk_44 hp_44 g_b4_11 ne_b10_b4_11 ne_b2_11_b4_11 (Ne.symm ne_b4_11_b6_11) g_b10 (Ne.symm ne_b10_b2_11) (Ne.symm ne_b10_b6_11) g_b2_11 (Ne.symm ne_b2_11_b6_11)) eH44 (by rw [hml]; rfl) (a := b10) E_b10 (argsL := []) rfl (lenOf pd_4 rfl) rfl at_117 (pc' := 120) rfl (by decide) (W := 0) (Nat.le_of_eq rfl) (by decide) (by decide) (by decide) (fun T49 h49 Lc49 v49r X49 eH49 hQ49 => ?_)
        obtain ⟨rfl, Nq49, Kq49, gq49_0, gq49_1, gq49_2, gq49_3, gq49_4, gq49_5, gq49_6, gq49_7, gq49_8, gq49_9, gq49_10, gq49_11⟩ := hQ49
        have N49 := Fr.app N44 Nq49
        replace E_b1 := E_b1.keep Kq49
        replace V_b1 := V_b1.keep Kq49 (ninS ne_b1_b4_11 (ninS ne_b1_b10 (ninS ne_b1_b2_11 nin0)))
        replace E_b10 := E_b10.keep Kq49
        replace E_b2_11 := E_b2_11.keep Kq49
        replace E_b4_11 := E_b4_11.keep Kq49
        replace E_b6_11 := E_b6_11.keep Kq49
        replace V_b6_11 := V_b6_11.keep Kq49 (ninS (Ne.symm ne_b4_11_b6_11) (ninS (Ne.symm ne_b10_b6_11) (ninS (Ne.symm ne_b2_11_b6_11) nin0)))
        have hl50 : (if dlt (L46.getD n28.toNatClampNeg 0) (L46.getD n35.toNatClampNeg 0) then (if dle (L46.getD n36.toNatClampNeg 0) (L46.getD n28.toNatClampNeg 0) then ((L48.set n34.toNatClampNeg (-1 : Int32)).set n36.toNatClampNeg (0 : Int32)) else (((L48.set n34.toNatClampNeg (-1 : Int32)).set n28.toNatClampNeg (0 : Int32)).set n36.toNatClampNeg (2 : Int32))) else (if dle (L46.getD n36.toNatClampNeg 0) (L46.getD n35.toNatClampNeg 0) then ((L48.set n34.toNatClampNeg (-1 : Int32)).set n36.toNatClampNeg (0 : Int32)) else (((L48.set n34.toNatClampNeg (-1 : Int32)).set n35.toNatClampNeg (0 : Int32)).set n36.toNatClampNeg (1 : Int32)))).length = 4 := by (repeat' split) <;> (simp only [List.length_set]; first | assumption | rfl)
        obtain ⟨L51, q_L51⟩ : ∃ z, (if dlt (L46.getD n28.toNatClampNeg 0) (L46.getD n35.toNatClampNeg 0) then (if dle (L46.getD n36.toNatClampNeg 0) (L46.getD n28.toNatClampNeg 0) then ((L48.set n34.toNatClampNeg (-1 : Int32)).set n36.toNatClampNeg (0 : Int32)) else (((L48.set n34.toNatClampNeg (-1 : Int32)).set n28.toNatClampNeg (0 : Int32)).set n36.toNatClampNeg (2 : Int32))) else (if dle (L46.getD n36.toNatClampNeg 0) (L46.getD n35.toNatClampNeg 0) then ((L48.set n34.toNatClampNeg (-1 : Int32)).set n36.toNatClampNeg (0 : Int32)) else (((L48.set n34.toNatClampNeg (-1 : Int32)).set n35.toNatClampNeg (0 : Int32)).set n36.toNatClampNeg (1 : Int32)))) = z := ⟨_, rfl⟩
        rw [q_L51] at gq49_0 hl50
        have V_b4_11 := gq49_0
        have E_b10 := gq49_1
        have F_b10_heap := gq49_2
        have F_b10_position := gq49_3
        have F_b10_key := gq49_4
        have F_b10_size := gq49_5
        obtain ⟨n52, q_n52⟩ : ∃ z : Int32, (if dlt (L46.getD n28.toNatClampNeg 0) (L46.getD n35.toNatClampNeg 0) then (if dle (L46.getD n36.toNatClampNeg 0) (L46.getD n28.toNatClampNeg 0) then n36 else n28) else (if dle (L46.getD n36.toNatClampNeg 0) (L46.getD n35.toNatClampNeg 0) then n36 else n35)) = z := ⟨_, rfl⟩
        obtain ⟨n53, q_n53⟩ : ∃ z : Int32, (if dlt (L46.getD n28.toNatClampNeg 0) (L46.getD n35.toNatClampNeg 0) then (if dle (L46.getD n36.toNatClampNeg 0) (L46.getD n28.toNatClampNeg 0) then n35 else n35) else (if dle (L46.getD n36.toNatClampNeg 0) (L46.getD n35.toNatClampNeg 0) then n35 else n36)) = z := ⟨_, rfl⟩
        obtain ⟨n54, q_n54⟩ : ∃ z : Int32, (if dlt (L46.getD n28.toNatClampNeg 0) (L46.getD n35.toNatClampNeg 0) then (if dle (L46.getD n36.toNatClampNeg 0) (L46.getD n28.toNatClampNeg 0) then n28 else n36) else (if dle (L46.getD n36.toNatClampNeg 0) (L46.getD n35.toNatClampNeg 0) then n28 else n28)) = z := ⟨_, rfl⟩
        have V_b2_11 : Ary tr Z h49 b2_11 .int [(.int n52), (.int n53), (.int n54), (.int n36)] := by rw [← q_n52, ← q_n53, ← q_n54]; exact gq49_6
        have hp_49 : Hp3 n52 n53 n54 L51 L46 := by rw [← q_n54, ← q_n53, ← q_n52, ← q_L51]; exact gq49_7
        have ab_49 : ∀ z : Int32, (0 ≤ z.toInt ∧ z.toInt < 4) → pv L48 z = -1 → pv L51 z = -1 := by rw [← q_L51]; exact gq49_8
        have go_49 : pv L51 n34 = -1 := by rw [← q_L51]; exact gq49_9
        have rg_49 : 0 ≤ n34.toInt ∧ n34.toInt < 4 := gq49_10
        have mn_49 : kv L46 n34 ≤ kv L46 n52 ∧ kv L46 n34 ≤ kv L46 n53 ∧ kv L46 n34 ≤ kv L46 n54 := by rw [← q_n54, ← q_n53, ← q_n52]; exact gq49_11
        replace Z0 := Nat.le_trans Z0 Kq49.1
        refine own_istore X49 hx hby (L' := #[.val (.int p0), .val (.int p1), .val (.int p2), .val (.int p3), .val (.int p4), .val (.int p5), .val (.ref b1), .val (.ref b10), .val (.int n34), .val (.double v41), .second, .val (.int n34), .unset, .unset, .unset, .unset, .unset]) rfl at_120 (pc' := 122) rfl ?_
        have rg_n34 := rg_49
        refine own_aload X49 hx hby rfl rfl at_122 (pc' := 124) rfl ?_
        refine own_virtual X49 hx hby hZ (y := (⟨"com/example/cross_town/crosstown/solve/NodeHeap", "poll", "()I"⟩ : MethodName)) (y' := (⟨"com/example/cross_town/crosstown/solve/NodeHeap", "poll", "()I"⟩ : MethodName)) (C := "com/example/cross_town/crosstown/solve/NodeHeap") (rest := []) hown (hw _ (List.mem_of_getElem? (i := 37) rfl)) (hw _ (List.mem_of_getElem? (i := 38) rfl)) (notFace_of_selects (args := #[]) (mvT hZ (hw _ (List.mem_of_getElem? (i := 40) rfl)))) (hw _ (List.mem_of_getElem? (i := 40) rfl)) (hw _ (List.mem_of_getElem? (i := 39) rfl)) (hw _ (List.mem_of_getElem? (i := 41) rfl)) (hw _ (List.mem_of_getElem? (i := 3) rfl)) (by decide) (rm73 l Z a0 hw [] b10 b2_11 b4_11 b6_11 n52 n53 n54 n36 L51 L46 h49 n0 Z0 E_b10 F_b10_heap F_b10_position F_b10_key V_b2_11 V_b4_11 (by first | assumption | rfl | (simp only [List.length_set]; first | assumption | rfl)) V_b6_11 (by first | assumption | rfl | (simp only [List.length_set]; first | assumption | rfl)) F_b10_size nnk_44 hp_49 g_b4_11 ne_b10_b4_11 ne_b2_11_b4_11 (Ne.symm ne_b4_11_b6_11) g_b10 (Ne.symm ne_b10_b2_11) (Ne.symm ne_b10_b6_11) g_b2_11 (Ne.symm ne_b2_11_b6_11)) eH49 (by rw [hml]; rfl) (a := b10) E_b10 (argsL := []) rfl (lenOf pd_4 rfl) rfl at_124 (pc' := 127) rfl (by decide) (W := 0) (Nat.le_of_eq rfl) (by decide) (by decide) (by decide) (fun T55 h55 Lc55 v55r X55 eH55 hQ55 => ?_)
        obtain ⟨rfl, Nq55, Kq55, gq55_0, gq55_1, gq55_2, gq55_3, gq55_4, gq55_5, gq55_6, gq55_7, gq55_8, gq55_9, gq55_10, gq55_11⟩ := hQ55
        have N55 := Fr.app N49 Nq55
        replace E_b1 := E_b1.keep Kq55
        replace V_b1 := V_b1.keep Kq55 (ninS ne_b1_b4_11 (ninS ne_b1_b10 (ninS ne_b1_b2_11 nin0)))
        replace E_b10 := E_b10.keep Kq55
        replace E_b2_11 := E_b2_11.keep Kq55
        replace E_b4_11 := E_b4_11.keep Kq55
        replace E_b6_11 := E_b6_11.keep Kq55
        replace V_b6_11 := V_b6_11.keep Kq55 (ninS (Ne.symm ne_b4_11_b6_11) (ninS (Ne.symm ne_b10_b6_11) (ninS (Ne.symm ne_b2_11_b6_11) nin0)))
        have hl56 : (if dle (L46.getD n54.toNatClampNeg 0) (L46.getD n53.toNatClampNeg 0) then ((L51.set n52.toNatClampNeg (-1 : Int32)).set n54.toNatClampNeg (0 : Int32)) else (((L51.set n52.toNatClampNeg (-1 : Int32)).set n53.toNatClampNeg (0 : Int32)).set n54.toNatClampNeg (1 : Int32))).length = 4 := by (repeat' split) <;> (simp only [List.length_set]; first | assumption | rfl)
        obtain ⟨L57, q_L57⟩ : ∃ z, (if dle (L46.getD n54.toNatClampNeg 0) (L46.getD n53.toNatClampNeg 0) then ((L51.set n52.toNatClampNeg (-1 : Int32)).set n54.toNatClampNeg (0 : Int32)) else (((L51.set n52.toNatClampNeg (-1 : Int32)).set n53.toNatClampNeg (0 : Int32)).set n54.toNatClampNeg (1 : Int32))) = z := ⟨_, rfl⟩
        rw [q_L57] at gq55_0 hl56
        have V_b4_11 := gq55_0
        have E_b10 := gq55_1
        have F_b10_heap := gq55_2
        have F_b10_position := gq55_3
        have F_b10_key := gq55_4
        have F_b10_size := gq55_5
        obtain ⟨n58, q_n58⟩ : ∃ z : Int32, (if dle (L46.getD n54.toNatClampNeg 0) (L46.getD n53.toNatClampNeg 0) then n54 else n53) = z := ⟨_, rfl⟩
        obtain ⟨n59, q_n59⟩ : ∃ z : Int32, (if dle (L46.getD n54.toNatClampNeg 0) (L46.getD n53.toNatClampNeg 0) then n53 else n54) = z := ⟨_, rfl⟩
        have V_b2_11 : Ary tr Z h55 b2_11 .int [(.int n58), (.int n59), (.int n54), (.int n36)] := by rw [← q_n58, ← q_n59]; exact gq55_6
        have hp_55 : Hp2 n58 n59 L57 L46 := by rw [← q_n59, ← q_n58, ← q_L57]; exact gq55_7
        have ab_55 : ∀ z : Int32, (0 ≤ z.toInt ∧ z.toInt < 4) → pv L51 z = -1 → pv L57 z = -1 := by rw [← q_L57]; exact gq55_8
        have go_55 : pv L57 n52 = -1 := by rw [← q_L57]; exact gq55_9
        have rg_55 : 0 ≤ n52.toInt ∧ n52.toInt < 4 := gq55_10
        have mn_55 : kv L46 n52 ≤ kv L46 n58 ∧ kv L46 n52 ≤ kv L46 n59 := by rw [← q_n59, ← q_n58]; exact gq55_11
        replace Z0 := Nat.le_trans Z0 Kq55.1
        as_aux_lemma =>
          refine own_istore X55 hx hby (L' := #[.val (.int p0), .val (.int p1), .val (.int p2), .val (.int p3), .val (.int p4), .val (.int p5), .val (.ref b1), .val (.ref b10), .val (.int n34), .val (.double v41), .second, .val (.int n34), .val (.int n52), .unset, .unset, .unset, .unset]) rfl at_127 (pc' := 129) rfl ?_
          have rg_n52 := rg_55
          refine own_aload X55 hx hby rfl rfl at_129 (pc' := 131) rfl ?_
          refine own_virtual X55 hx hby hZ (y := (⟨"com/example/cross_town/crosstown/solve/NodeHeap", "poll", "()I"⟩ : MethodName)) (y' := (⟨"com/example/cross_town/crosstown/solve/NodeHeap", "poll", "()I"⟩ : MethodName)) (C := "com/example/cross_town/crosstown/solve/NodeHeap") (rest := []) hown (hw _ (List.mem_of_getElem? (i := 37) rfl)) (hw _ (List.mem_of_getElem? (i := 38) rfl)) (notFace_of_selects (args := #[]) (mvT hZ (hw _ (List.mem_of_getElem? (i := 40) rfl)))) (hw _ (List.mem_of_getElem? (i := 40) rfl)) (hw _ (List.mem_of_getElem? (i := 39) rfl)) (hw _ (List.mem_of_getElem? (i := 41) rfl)) (hw _ (List.mem_of_getElem? (i := 3) rfl)) (by decide) (rm72 l Z a0 hw [] b10 b2_11 b4_11 b6_11 n58 n59 n54 n36 L57 L46 h55 n0 Z0 E_b10 F_b10_heap F_b10_position F_b10_key V_b2_11 V_b4_11 (by first | assumption | rfl | (simp only [List.length_set]; first | assumption | rfl)) V_b6_11 (by first | assumption | rfl | (simp only [List.length_set]; first | assumption | rfl)) F_b10_size nnk_44 hp_55 g_b4_11 ne_b10_b4_11 ne_b2_11_b4_11 (Ne.symm ne_b4_11_b6_11) g_b10 (Ne.symm ne_b10_b2_11) (Ne.symm ne_b10_b6_11) g_b2_11 (Ne.symm ne_b2_11_b6_11)) eH55 (by rw [hml]; rfl) (a := b10) E_b10 (argsL := []) rfl (lenOf pd_4 rfl) rfl at_131 (pc' := 134) rfl (by decide) (W := 0) (Nat.le_of_eq rfl) (by decide) (by decide) (by decide) (fun T60 h60 Lc60 v60r X60 eH60 hQ60 => ?_)
          obtain ⟨rfl, Nq60, Kq60, gq60_0, gq60_1, gq60_2, gq60_3, gq60_4, gq60_5, gq60_6, gq60_7, gq60_8, gq60_9, gq60_10, gq60_11⟩ := hQ60
          have N60 := Fr.app N55 Nq60
          replace E_b1 := E_b1.keep Kq60
          replace V_b1 := V_b1.keep Kq60 (ninS ne_b1_b4_11 (ninS ne_b1_b10 (ninS ne_b1_b2_11 nin0)))
          replace E_b10 := E_b10.keep Kq60
          replace E_b2_11 := E_b2_11.keep Kq60
          replace E_b4_11 := E_b4_11.keep Kq60
          replace E_b6_11 := E_b6_11.keep Kq60
          replace V_b6_11 := V_b6_11.keep Kq60 (ninS (Ne.symm ne_b4_11_b6_11) (ninS (Ne.symm ne_b10_b6_11) (ninS (Ne.symm ne_b2_11_b6_11) nin0)))
          have hl61 : ((L57.set n58.toNatClampNeg (-1 : Int32)).set n59.toNatClampNeg (0 : Int32)).length = 4 := by (repeat' split) <;> (simp only [List.length_set]; first | assumption | rfl)
          obtain ⟨L62, q_L62⟩ : ∃ z, ((L57.set n58.toNatClampNeg (-1 : Int32)).set n59.toNatClampNeg (0 : Int32)) = z := ⟨_, rfl⟩
          rw [q_L62] at gq60_0 hl61
          have V_b4_11 := gq60_0
          have E_b10 := gq60_1
          have F_b10_heap := gq60_2
          have F_b10_position := gq60_3
          have F_b10_key := gq60_4
          have F_b10_size := gq60_5
          have V_b2_11 := gq60_6
          have hp_60 : Hp1 n59 L62 L46 := by rw [← q_L62]; exact gq60_7
          have ab_60 : ∀ z : Int32, (0 ≤ z.toInt ∧ z.toInt < 4) → pv L57 z = -1 → pv L62 z = -1 := by rw [← q_L62]; exact gq60_8
          have go_60 : pv L62 n58 = -1 := by rw [← q_L62]; exact gq60_9
          have rg_60 : 0 ≤ n58.toInt ∧ n58.toInt < 4 := gq60_10
          have mn_60 : kv L46 n58 ≤ kv L46 n59 := gq60_11
          replace Z0 := Nat.le_trans Z0 Kq60.1
          refine own_istore X60 hx hby (L' := #[.val (.int p0), .val (.int p1), .val (.int p2), .val (.int p3), .val (.int p4), .val (.int p5), .val (.ref b1), .val (.ref b10), .val (.int n34), .val (.double v41), .second, .val (.int n34), .val (.int n52), .val (.int n58), .unset, .unset, .unset]) rfl at_134 (pc' := 136) rfl ?_
          have rg_n58 := rg_60
          refine own_aload X60 hx hby rfl rfl at_136 (pc' := 138) rfl ?_
          refine own_virtual X60 hx hby hZ (y := (⟨"com/example/cross_town/crosstown/solve/NodeHeap", "poll", "()I"⟩ : MethodName)) (y' := (⟨"com/example/cross_town/crosstown/solve/NodeHeap", "poll", "()I"⟩ : MethodName)) (C := "com/example/cross_town/crosstown/solve/NodeHeap") (rest := []) hown (hw _ (List.mem_of_getElem? (i := 37) rfl)) (hw _ (List.mem_of_getElem? (i := 38) rfl)) (notFace_of_selects (args := #[]) (mvT hZ (hw _ (List.mem_of_getElem? (i := 40) rfl)))) (hw _ (List.mem_of_getElem? (i := 40) rfl)) (hw _ (List.mem_of_getElem? (i := 39) rfl)) (hw _ (List.mem_of_getElem? (i := 41) rfl)) (hw _ (List.mem_of_getElem? (i := 3) rfl)) (by decide) (rm71 l Z a0 hw [] b10 b2_11 b4_11 b6_11 n59 n59 n54 n36 L62 L46 h60 n0 Z0 E_b10 F_b10_heap F_b10_position F_b10_key V_b2_11 V_b4_11 (by first | assumption | rfl | (simp only [List.length_set]; first | assumption | rfl)) V_b6_11 (by first | assumption | rfl | (simp only [List.length_set]; first | assumption | rfl)) F_b10_size nnk_44 hp_60 g_b4_11 ne_b10_b4_11 ne_b2_11_b4_11 (Ne.symm ne_b4_11_b6_11) g_b10 (Ne.symm ne_b10_b2_11) (Ne.symm ne_b10_b6_11)) eH60 (by rw [hml]; rfl) (a := b10) E_b10 (argsL := []) rfl (lenOf pd_4 rfl) rfl at_138 (pc' := 141) rfl (by decide) (W := 0) (Nat.le_of_eq rfl) (by decide) (by decide) (by decide) (fun T63 h63 Lc63 v63r X63 eH63 hQ63 => ?_)
          obtain ⟨rfl, Nq63, Kq63, gq63_0, gq63_1, gq63_2, gq63_3, gq63_4, gq63_5, gq63_6, gq63_7, gq63_8⟩ := hQ63
          have N63 := Fr.app N60 Nq63
          replace E_b1 := E_b1.keep Kq63
          replace V_b1 := V_b1.keep Kq63 (ninS ne_b1_b4_11 (ninS ne_b1_b10 nin0))
          replace E_b10 := E_b10.keep Kq63
          replace E_b2_11 := E_b2_11.keep Kq63
          replace V_b2_11 := V_b2_11.keep Kq63 (ninS ne_b2_11_b4_11 (ninS (Ne.symm ne_b10_b2_11) nin0))
          replace E_b4_11 := E_b4_11.keep Kq63
          replace E_b6_11 := E_b6_11.keep Kq63
          replace V_b6_11 := V_b6_11.keep Kq63 (ninS (Ne.symm ne_b4_11_b6_11) (ninS (Ne.symm ne_b10_b6_11) nin0))
          have hl64 : (L62.set n59.toNatClampNeg (-1 : Int32)).length = 4 := by (repeat' split) <;> (simp only [List.length_set]; first | assumption | rfl)
          obtain ⟨L65, q_L65⟩ : ∃ z, (L62.set n59.toNatClampNeg (-1 : Int32)) = z := ⟨_, rfl⟩
          rw [q_L65] at gq63_0 hl64
          have V_b4_11 := gq63_0
          have E_b10 := gq63_1
          have F_b10_heap := gq63_2
          have F_b10_position := gq63_3
          have F_b10_key := gq63_4
          have F_b10_size := gq63_5
          have ab_63 : ∀ z : Int32, (0 ≤ z.toInt ∧ z.toInt < 4) → pv L62 z = -1 → pv L65 z = -1 := by rw [← q_L65]; exact gq63_6
          have go_63 : pv L65 n59 = -1 := by rw [← q_L65]; exact gq63_7
          have rg_63 : 0 ≤ n59.toInt ∧ n59.toInt < 4 := gq63_8
          replace Z0 := Nat.le_trans Z0 Kq63.1
          refine own_istore X63 hx hby (L' := #[.val (.int p0), .val (.int p1), .val (.int p2), .val (.int p3), .val (.int p4), .val (.int p5), .val (.ref b1), .val (.ref b10), .val (.int n34), .val (.double v41), .second, .val (.int n34), .val (.int n52), .val (.int n58), .val (.int n59), .unset, .unset]) rfl at_141 (pc' := 143) rfl ?_
          have rg_n59 := rg_63
          have a2 := ab_55 n34 rg_n34 go_49
          have a3 := ab_60 n34 rg_n34 a2
          have b3 := ab_60 n52 rg_n52 go_55
          have n1 := own_pne go_49 (hp_49).2.2.2.1 (by decide)
          have n2 := own_pne a2 (hp_55).2.2.1 (by decide)
          have n3 := own_pne a3 (hp_60).2 (by decide)
          have n4 := own_pne go_55 (hp_55).2.2.1 (by decide)
          have n5 := own_pne b3 (hp_60).2 (by decide)
          have n6 := own_pne go_60 (hp_60).2 (by decide)
          have k1 := (mn_49).1
          have k2 := (mn_55).1
          have k3 := mn_60
          refine own_aload X63 hx hby rfl rfl at_143 (pc' := 145) rfl ?_
          refine own_virtual X63 hx hby hZ (y := (⟨"com/example/cross_town/crosstown/solve/NodeHeap", "isEmpty", "()Z"⟩ : MethodName)) (y' := (⟨"com/example/cross_town/crosstown/solve/NodeHeap", "isEmpty", "()Z"⟩ : MethodName)) (C := "com/example/cross_town/crosstown/solve/NodeHeap") (rest := []) hown (hw _ (List.mem_of_getElem? (i := 46) rfl)) (hw _ (List.mem_of_getElem? (i := 47) rfl)) (notFace_of_selects (args := #[]) (mvT hZ (hw _ (List.mem_of_getElem? (i := 49) rfl)))) (hw _ (List.mem_of_getElem? (i := 49) rfl)) (hw _ (List.mem_of_getElem? (i := 48) rfl)) (hw _ (List.mem_of_getElem? (i := 50) rfl)) (hw _ (List.mem_of_getElem? (i := 3) rfl)) (by decide) (rm9 l Z a0 hw [] b10 (0 : Int32) h63 n0 Z0 F_b10_size) eH63 (by rw [hml]; rfl) (a := b10) E_b10 (argsL := []) rfl (lenOf pd_5 rfl) rfl at_145 (pc' := 148) rfl (by decide) (W := 0) (Nat.le_of_eq rfl) (by decide) (by decide) (by decide) (fun T66 h66 Lc66 v66r X66 eH66 hQ66 => ?_)
          obtain ⟨rfl, Nq66, rfl⟩ := hQ66
          have N66 := Fr.app N63 Nq66
          dsimp only [Option.toList, List.cons_append, List.nil_append]
          generalize q_r67 : (if (0 : Int32) = 0 then (1 : Int32) else (0 : Int32)) = r67
          refine own_istore X66 hx hby (L' := #[.val (.int p0), .val (.int p1), .val (.int p2), .val (.int p3), .val (.int p4), .val (.int p5), .val (.ref b1), .val (.ref b10), .val (.int n34), .val (.double v41), .second, .val (.int n34), .val (.int n52), .val (.int n58), .val (.int n59), .val (.int r67), .unset]) rfl at_148 (pc' := 150) rfl ?_
          refine own_iload X66 hx hby rfl at_150 (pc' := 152) rfl ?_
          refine own_static X66 hx hby hZ (y := (⟨"com/example/cross_town/crosstown/solve/NodeHeapInsertOrLowerPinLaw", "inRange", "(I)Z"⟩ : MethodName)) (rest := []) hown (hw _ (List.mem_of_getElem? (i := 51) rfl)) (hw _ (List.mem_of_getElem? (i := 52) rfl)) (hw _ (List.mem_of_getElem? (i := 54) rfl)) (hw _ (List.mem_of_getElem? (i := 53) rfl)) (by decide) (rm10 l Z a0 hw [] n34 h63 n0 Z0) eH66 (by rw [hml]; rfl) (argsL := [(.int n34)]) rfl (lenOf pd_6 rfl) rfl at_152 (pc' := 155) rfl (by decide) (W := 0) (Nat.le_of_eq rfl) (by decide) (by decide) (by decide) (fun T68 h68 Lc68 v68r X68 eH68 hQ68 => ?_)
          obtain ⟨rfl, Nq68, rfl⟩ := hQ68
          have N68 := Fr.app N66 Nq68
          dsimp only [Option.toList, List.cons_append, List.nil_append]
          generalize q_r69 : (if n34 < 0 then (0 : Int32) else (if n34 < (4 : Int32) then (1 : Int32) else (0 : Int32))) = r69
          have hk70 : ¬ (r69 = 0) := own_okr rg_n34 q_r69
          refine own_ifF X68 hx hby at_155 (own_i0_eq_n hk70) (pc' := 158) rfl ?_
          refine own_iload X68 hx hby rfl at_158 (pc' := 160) rfl ?_
          refine own_static X68 hx hby hZ (y := (⟨"com/example/cross_town/crosstown/solve/NodeHeapInsertOrLowerPinLaw", "inRange", "(I)Z"⟩ : MethodName)) (rest := []) hown (hw _ (List.mem_of_getElem? (i := 51) rfl)) (hw _ (List.mem_of_getElem? (i := 52) rfl)) (hw _ (List.mem_of_getElem? (i := 54) rfl)) (hw _ (List.mem_of_getElem? (i := 53) rfl)) (by decide) (rm10 l Z a0 hw [] n52 h63 n0 Z0) eH68 (by rw [hml]; rfl) (argsL := [(.int n52)]) rfl (lenOf pd_6 rfl) rfl at_160 (pc' := 163) rfl (by decide) (W := 0) (Nat.le_of_eq rfl) (by decide) (by decide) (by decide) (fun T71 h71 Lc71 v71r X71 eH71 hQ71 => ?_)
          obtain ⟨rfl, Nq71, rfl⟩ := hQ71
          have N71 := Fr.app N68 Nq71
          dsimp only [Option.toList, List.cons_append, List.nil_append]
          generalize q_r72 : (if n52 < 0 then (0 : Int32) else (if n52 < (4 : Int32) then (1 : Int32) else (0 : Int32))) = r72
          have hk73 : ¬ (r72 = 0) := own_okr rg_n52 q_r72
          refine own_ifF X71 hx hby at_163 (own_i0_eq_n hk73) (pc' := 166) rfl ?_
          refine own_iload X71 hx hby rfl at_166 (pc' := 168) rfl ?_
          refine own_static X71 hx hby hZ (y := (⟨"com/example/cross_town/crosstown/solve/NodeHeapInsertOrLowerPinLaw", "inRange", "(I)Z"⟩ : MethodName)) (rest := []) hown (hw _ (List.mem_of_getElem? (i := 51) rfl)) (hw _ (List.mem_of_getElem? (i := 52) rfl)) (hw _ (List.mem_of_getElem? (i := 54) rfl)) (hw _ (List.mem_of_getElem? (i := 53) rfl)) (by decide) (rm10 l Z a0 hw [] n58 h63 n0 Z0) eH71 (by rw [hml]; rfl) (argsL := [(.int n58)]) rfl (lenOf pd_6 rfl) rfl at_168 (pc' := 171) rfl (by decide) (W := 0) (Nat.le_of_eq rfl) (by decide) (by decide) (by decide) (fun T74 h74 Lc74 v74r X74 eH74 hQ74 => ?_)
          obtain ⟨rfl, Nq74, rfl⟩ := hQ74
          have N74 := Fr.app N71 Nq74
          dsimp only [Option.toList, List.cons_append, List.nil_append]
          generalize q_r75 : (if n58 < 0 then (0 : Int32) else (if n58 < (4 : Int32) then (1 : Int32) else (0 : Int32))) = r75
          have hk76 : ¬ (r75 = 0) := own_okr rg_n58 q_r75
          refine own_ifF X74 hx hby at_171 (own_i0_eq_n hk76) (pc' := 174) rfl ?_
          refine own_iload X74 hx hby rfl at_174 (pc' := 176) rfl ?_
          refine own_static X74 hx hby hZ (y := (⟨"com/example/cross_town/crosstown/solve/NodeHeapInsertOrLowerPinLaw", "inRange", "(I)Z"⟩ : MethodName)) (rest := []) hown (hw _ (List.mem_of_getElem? (i := 51) rfl)) (hw _ (List.mem_of_getElem? (i := 52) rfl)) (hw _ (List.mem_of_getElem? (i := 54) rfl)) (hw _ (List.mem_of_getElem? (i := 53) rfl)) (by decide) (rm10 l Z a0 hw [] n59 h63 n0 Z0) eH74 (by rw [hml]; rfl) (argsL := [(.int n59)]) rfl (lenOf pd_6 rfl) rfl at_176 (pc' := 179) rfl (by decide) (W := 0) (Nat.le_of_eq rfl) (by decide) (by decide) (by decide) (fun T77 h77 Lc77 v77r X77 eH77 hQ77 => ?_)
          obtain ⟨rfl, Nq77, rfl⟩ := hQ77
          have N77 := Fr.app N74 Nq77
          dsimp only [Option.toList, List.cons_append, List.nil_append]
          generalize q_r78 : (if n59 < 0 then (0 : Int32) else (if n59 < (4 : Int32) then (1 : Int32) else (0 : Int32))) = r78
          have hk79 : ¬ (r78 = 0) := own_okr rg_n59 q_r78
          refine own_ifT X77 hx hby at_179 (own_i0_ne_n hk79) (by decide) (pc' := 184) (by decide) ?_
          refine own_iconst X77 hx hby (v := (1 : Int32)) (by decide) at_184 (pc' := 185) rfl ?_
          refine own_iload X77 hx hby rfl at_185 (pc' := 187) rfl ?_
          refine own_ishl X77 hx hby rfl at_187 (pc' := 188) rfl ?_
          refine own_iconst X77 hx hby (v := (1 : Int32)) (by decide) at_188 (pc' := 189) rfl ?_
          refine own_iload X77 hx hby rfl at_189 (pc' := 191) rfl ?_
          refine own_ishl X77 hx hby rfl at_191 (pc' := 192) rfl ?_
          refine own_ior X77 hx hby rfl at_192 (pc' := 193) rfl ?_
          refine own_iconst X77 hx hby (v := (1 : Int32)) (by decide) at_193 (pc' := 194) rfl ?_
          refine own_iload X77 hx hby rfl at_194 (pc' := 196) rfl ?_
          refine own_ishl X77 hx hby rfl at_196 (pc' := 197) rfl ?_
          refine own_ior X77 hx hby rfl at_197 (pc' := 198) rfl ?_
          refine own_iconst X77 hx hby (v := (1 : Int32)) (by decide) at_198 (pc' := 199) rfl ?_
          as_aux_lemma =>
            refine own_iload X77 hx hby rfl at_199 (pc' := 201) rfl ?_
            refine own_ishl X77 hx hby rfl at_201 (pc' := 202) rfl ?_
            refine own_ior X77 hx hby rfl at_202 (pc' := 203) rfl ?_
            generalize q_n80 : (((((1 : Int32) <<< (n34 &&& 31)) ||| ((1 : Int32) <<< (n52 &&& 31))) ||| ((1 : Int32) <<< (n58 &&& 31))) ||| ((1 : Int32) <<< (n59 &&& 31))) = n80
            refine own_istore X77 hx hby (L' := #[.val (.int p0), .val (.int p1), .val (.int p2), .val (.int p3), .val (.int p4), .val (.int p5), .val (.ref b1), .val (.ref b10), .val (.int n34), .val (.double v41), .second, .val (.int n34), .val (.int n52), .val (.int n58), .val (.int n59), .val (.int r67), .val (.int n80)]) rfl at_203 (pc' := 205) rfl ?_
            refine own_iload X77 hx hby rfl at_205 (pc' := 207) rfl ?_
            have hk81 : ¬ (r67 = 0) := by rw [← q_r67]; decide
            refine own_ifF X77 hx hby at_207 (own_i0_eq_n hk81) (pc' := 210) rfl ?_
            refine own_iload X77 hx hby rfl at_210 (pc' := 212) rfl ?_
            refine own_bipush X77 hx hby (v := (15 : Int32)) (by decide) at_212 (pc' := 214) rfl ?_
            have hk82 : n80 = (15 : Int32) := q_n80.symm.trans (own_mask15 rg_n34 rg_n52 rg_n58 rg_n59 n1 n2 n3 n4 n5 n6)
            refine own_icF X77 hx hby at_214 (own_ic_ne_p hk82) (pc' := 217) rfl ?_
            refine own_aload X77 hx hby rfl rfl at_217 (pc' := 219) rfl ?_
            refine own_iload X77 hx hby rfl at_219 (pc' := 221) rfl ?_
            refine own_daload X77 hx hby hZ eH77 V_b1 (own_rg0 rg_n34) (v := (.double ((DD.set n34.toNatClampNeg v41).getD n34.toNatClampNeg 0))) (own_lget (own_rgl rg_n34 hl43)) at_221 (pc' := 222) rfl ?_
            refine own_aload X77 hx hby rfl rfl at_222 (pc' := 224) rfl ?_
            refine own_iload X77 hx hby rfl at_224 (pc' := 226) rfl ?_
            refine own_daload X77 hx hby hZ eH77 V_b1 (own_rg0 rg_n52) (v := (.double ((DD.set n34.toNatClampNeg v41).getD n52.toNatClampNeg 0))) (own_lget (own_rgl rg_n52 hl43)) at_226 (pc' := 227) rfl ?_
            refine own_dcmp X77 hx hby rfl at_227 (pc' := 228) rfl ?_
            have hk83 : dle ((DD.set n34.toNatClampNeg v41).getD n34.toNatClampNeg 0) ((DD.set n34.toNatClampNeg v41).getD n52.toNatClampNeg 0) := own_dled R5 nD5 rg_n34 rg_n52 k1
            refine own_ifF X77 hx hby at_228 (own_dg_gt_p hk83) (pc' := 231) rfl ?_
            refine own_aload X77 hx hby rfl rfl at_231 (pc' := 233) rfl ?_
            refine own_iload X77 hx hby rfl at_233 (pc' := 235) rfl ?_
            refine own_daload X77 hx hby hZ eH77 V_b1 (own_rg0 rg_n52) (v := (.double ((DD.set n34.toNatClampNeg v41).getD n52.toNatClampNeg 0))) (own_lget (own_rgl rg_n52 hl43)) at_235 (pc' := 236) rfl ?_
            refine own_aload X77 hx hby rfl rfl at_236 (pc' := 238) rfl ?_
            refine own_iload X77 hx hby rfl at_238 (pc' := 240) rfl ?_
            refine own_daload X77 hx hby hZ eH77 V_b1 (own_rg0 rg_n58) (v := (.double ((DD.set n34.toNatClampNeg v41).getD n58.toNatClampNeg 0))) (own_lget (own_rgl rg_n58 hl43)) at_240 (pc' := 241) rfl ?_
            refine own_dcmp X77 hx hby rfl at_241 (pc' := 242) rfl ?_
            have hk84 : dle ((DD.set n34.toNatClampNeg v41).getD n52.toNatClampNeg 0) ((DD.set n34.toNatClampNeg v41).getD n58.toNatClampNeg 0) := own_dled R5 nD5 rg_n52 rg_n58 k2
            refine own_ifF X77 hx hby at_242 (own_dg_gt_p hk84) (pc' := 245) rfl ?_
            refine own_aload X77 hx hby rfl rfl at_245 (pc' := 247) rfl ?_
            refine own_iload X77 hx hby rfl at_247 (pc' := 249) rfl ?_
            refine own_daload X77 hx hby hZ eH77 V_b1 (own_rg0 rg_n58) (v := (.double ((DD.set n34.toNatClampNeg v41).getD n58.toNatClampNeg 0))) (own_lget (own_rgl rg_n58 hl43)) at_249 (pc' := 250) rfl ?_
            refine own_aload X77 hx hby rfl rfl at_250 (pc' := 252) rfl ?_
            refine own_iload X77 hx hby rfl at_252 (pc' := 254) rfl ?_
            refine own_daload X77 hx hby hZ eH77 V_b1 (own_rg0 rg_n59) (v := (.double ((DD.set n34.toNatClampNeg v41).getD n59.toNatClampNeg 0))) (own_lget (own_rgl rg_n59 hl43)) at_254 (pc' := 255) rfl ?_
            refine own_dcmp X77 hx hby rfl at_255 (pc' := 256) rfl ?_
            have hk85 : dle ((DD.set n34.toNatClampNeg v41).getD n58.toNatClampNeg 0) ((DD.set n34.toNatClampNeg v41).getD n59.toNatClampNeg 0) := own_dled R5 nD5 rg_n58 rg_n59 k3
            refine own_ifF X77 hx hby at_256 (own_dg_gt_p hk85) (pc' := 259) rfl ?_
            refine own_iconst X77 hx hby (v := (1 : Int32)) (by decide) at_259 (pc' := 260) rfl ?_
            refine own_goto X77 hx hby at_260 (by decide) (pc' := 264) (by decide) ?_
            exact own_retZ X77 hx hby Bd.notSynchronized Bd.returns (Or.inr rfl) at_264 (by decide) (by decide) eH77 ⟨rfl, N77⟩
    · have rg_n35 := own_m3 q_n39
      as_aux_lemma =>
        refine own_aload X31 hx hby rfl rfl at_85 (pc' := 87) rfl ?_
        refine own_iload X31 hx hby rfl at_87 (pc' := 89) rfl ?_
        refine own_daload X31 hx hby hZ eH31 V_b1 (own_rg0 rg_n35) (v := (.double (DD.getD n35.toNatClampNeg 0))) (own_lget (own_rgl rg_n35 hlD)) at_89 (pc' := 90) rfl ?_
        refine own_iload X31 hx hby rfl at_90 (pc' := 92) rfl ?_
        refine own_ldcI X31 hx hby hZ hown (hw _ (List.mem_of_getElem? (i := 36) rfl)) at_92 (pc' := 94) rfl ?_
        refine own_iand X31 hx hby rfl at_94 (pc' := 95) rfl ?_
        obtain ⟨v86, q_v86⟩ : ∃ z : UInt64, (FP.i2d (p5 &&& (2147483647 : Int32))) = z := ⟨_, rfl⟩
        have D_v86 : Dy v86 (p5 &&& (2147483647 : Int32)).toInt 0 := q_v86 ▸ dy_i2d (p5 &&& (2147483647 : Int32))
        refine own_i2d X31 hx hby q_v86 at_95 (pc' := 96) rfl ?_
        obtain ⟨v87, q_v87⟩ : ∃ z : UInt64, (FP.dsub (DD.getD n35.toNatClampNeg 0) v86) = z := ⟨_, rfl⟩
        obtain ⟨e8, De8⟩ : ∃ e : Int32, Dy (DD.getD n35.toNatClampNeg 0) e.toInt 0 := by rw [← q_DD]; exact own_dg D_v2 D_v4 D_v6 D_v8 rg_n35
        have D_v87 := De8.sub D_v86 (by have := rng32 e8; have := own_m31 p5; omega) (by omega)
        rw [q_v87] at D_v87
        have nn_v87 := D_v87.nn
        have low : zv v87 ≤ zv (DD.getD n35.toNatClampNeg 0) := (Dy.zle D_v87 De8).1.mpr (by have := own_m31 p5; omega)
        refine own_dsub X31 hx hby (by rw [q_v87]; exact nn_v87) q_v87 at_96 (pc' := 97) rfl ?_
        refine own_dstore X31 hx hby (L' := #[.val (.int p0), .val (.int p1), .val (.int p2), .val (.int p3), .val (.int p4), .val (.int p5), .val (.ref b1), .val (.ref b10), .val (.int n35), .val (.double v87), .second, .unset, .unset, .unset, .unset, .unset, .unset]) rfl at_97 (pc' := 99) rfl ?_
        refine own_aload X31 hx hby rfl rfl at_99 (pc' := 101) rfl ?_
        refine own_iload X31 hx hby rfl at_101 (pc' := 103) rfl ?_
        refine own_dload X31 hx hby rfl at_103 (pc' := 105) rfl ?_
        refine own_dastore X31 hx hby hZ eH31 V_b1 (own_rg0 rg_n35) (n := n35.toNatClampNeg) rfl (by rw [List.length_map]; exact own_rgl rg_n35 hlD) at_105 (pc' := 106) rfl (fun T88 h88 X88 eH88 W88 => ?_)
        replace E_b1 := E_b1.wr W88
        replace E_b10 := E_b10.wr W88
        replace F_b10_heap := F_b10_heap.other W88 (Or.inl (Ne.symm ne_b1_b10))
        replace F_b10_position := F_b10_position.other W88 (Or.inl (Ne.symm ne_b1_b10))
        replace F_b10_key := F_b10_key.other W88 (Or.inl (Ne.symm ne_b1_b10))
        replace F_b10_size := F_b10_size.other W88 (Or.inl (Ne.symm ne_b1_b10))
        replace E_b2_11 := E_b2_11.wr W88
        replace V_b2_11 := V_b2_11.other W88 (Ne.symm ne_b1_b2_11)
        replace E_b4_11 := E_b4_11.wr W88
        replace V_b4_11 := V_b4_11.other W88 (Ne.symm ne_b1_b4_11)
        replace E_b6_11 := E_b6_11.wr W88
        replace V_b6_11 := V_b6_11.other W88 (Ne.symm ne_b1_b6_11)
        have N88 := Fr.snoc X88 N31 g_b1
        replace Z0 := Nat.le_trans Z0 (Nat.le_of_eq W88.size.symm)
        have hl89 : (DD.set n35.toNatClampNeg v87).length = 4 := by rw [List.length_set]; exact hlD
        replace V_b1 : Ary tr Z h88 b1 .double ((DD.set n35.toNatClampNeg v87).map Value.double) := by rw [List.map_set]; exact V_b1.set W88
        refine own_aload X88 hx hby rfl rfl at_106 (pc' := 108) rfl ?_
        refine own_iload X88 hx hby rfl at_108 (pc' := 110) rfl ?_
        refine own_dload X88 hx hby rfl at_110 (pc' := 112) rfl ?_
        refine own_virtual X88 hx hby hZ (y := (⟨"com/example/cross_town/crosstown/solve/NodeHeap", "insertOrLower", "(ID)V"⟩ : MethodName)) (y' := (⟨"com/example/cross_town/crosstown/solve/NodeHeap", "insertOrLower", "(ID)V"⟩ : MethodName)) (C := "com/example/cross_town/crosstown/solve/NodeHeap") (rest := []) hown (hw _ (List.mem_of_getElem? (i := 21) rfl)) (hw _ (List.mem_of_getElem? (i := 22) rfl)) (notFace_of_selects (args := #[]) (mvT hZ (hw _ (List.mem_of_getElem? (i := 24) rfl)))) (hw _ (List.mem_of_getElem? (i := 24) rfl)) (hw _ (List.mem_of_getElem? (i := 23) rfl)) (hw _ (List.mem_of_getElem? (i := 25) rfl)) (hw _ (List.mem_of_getElem? (i := 3) rfl)) (by decide) (rm4l41 l Z a0 hw [] b10 n35 v87 b2_11 b4_11 b6_11 n34 n28 n36 L38 L33 h88 n0 Z0 E_b10 F_b10_heap F_b10_position F_b10_key F_b10_size V_b2_11 V_b4_11 (by first | assumption | rfl | (simp only [List.length_set]; first | assumption | rfl)) V_b6_11 (by first | assumption | rfl | (simp only [List.length_set]; first | assumption | rfl)) nnk_31 D_v87.1.ne_nan hp_31 (by rw [R4 n35 rg_n35]; exact low) g_b6_11 ne_b10_b6_11 ne_b2_11_b6_11 ne_b4_11_b6_11 g_b2_11 ne_b10_b2_11 (Ne.symm ne_b2_11_b4_11) g_b4_11 ne_b10_b4_11) eH88 (by rw [hml]; rfl) (a := b10) E_b10 (argsL := [(.int n35), (.double v87)]) rfl (lenOf pd_3 rfl) rfl at_112 (pc' := 115) rfl (by decide) (W := 0) (Nat.le_of_eq rfl) (by decide) (by decide) (by decide) (fun T90 h90 Lc90 v90r X90 eH90 hQ90 => ?_)
        obtain ⟨rfl, Nq90, Kq90, gq90_0, gq90_1, gq90_2, gq90_3, gq90_4⟩ := hQ90
        have N90 := Fr.app N88 Nq90
        replace E_b1 := E_b1.keep Kq90
        replace V_b1 := V_b1.keep Kq90 (ninS ne_b1_b6_11 (ninS ne_b1_b2_11 (ninS ne_b1_b4_11 nin0)))
        replace E_b10 := E_b10.keep Kq90
        replace F_b10_heap := F_b10_heap.keep Kq90 (ninS ne_b10_b6_11 (ninS ne_b10_b2_11 (ninS ne_b10_b4_11 nin0)))
        replace F_b10_position := F_b10_position.keep Kq90 (ninS ne_b10_b6_11 (ninS ne_b10_b2_11 (ninS ne_b10_b4_11 nin0)))
        replace F_b10_key := F_b10_key.keep Kq90 (ninS ne_b10_b6_11 (ninS ne_b10_b2_11 (ninS ne_b10_b4_11 nin0)))
        replace F_b10_size := F_b10_size.keep Kq90 (ninS ne_b10_b6_11 (ninS ne_b10_b2_11 (ninS ne_b10_b4_11 nin0)))
        replace E_b2_11 := E_b2_11.keep Kq90
        replace E_b4_11 := E_b4_11.keep Kq90
        replace E_b6_11 := E_b6_11.keep Kq90
        have hl91 : (L33.set n35.toNatClampNeg v87).length = 4 := by (repeat' split) <;> (simp only [List.length_set]; first | assumption | rfl)
        obtain ⟨L92, q_L92⟩ : ∃ z, (L33.set n35.toNatClampNeg v87) = z := ⟨_, rfl⟩
        rw [q_L92] at gq90_0 hl91
        have V_b6_11 := gq90_0
        obtain ⟨n93, q_n93⟩ : ∃ z : Int32, (if dle ((L33.set n35.toNatClampNeg v87).getD n34.toNatClampNeg 0) ((L33.set n35.toNatClampNeg v87).getD n35.toNatClampNeg 0) then n34 else n35) = z := ⟨_, rfl⟩
        obtain ⟨n94, q_n94⟩ : ∃ z : Int32, (if dle ((L33.set n35.toNatClampNeg v87).getD n34.toNatClampNeg 0) ((L33.set n35.toNatClampNeg v87).getD n35.toNatClampNeg 0) then n35 else n34) = z := ⟨_, rfl⟩
        have V_b2_11 : Ary tr Z h90 b2_11 .int [(.int n93), (.int n94), (.int n28), (.int n36)] := by rw [← q_n93, ← q_n94]; exact gq90_1
        have hl95 : (if dle ((L33.set n35.toNatClampNeg v87).getD n34.toNatClampNeg 0) ((L33.set n35.toNatClampNeg v87).getD n35.toNatClampNeg 0) then (L38.set n35.toNatClampNeg (1 : Int32)) else ((L38.set n34.toNatClampNeg (1 : Int32)).set n35.toNatClampNeg (0 : Int32))).length = 4 := by (repeat' split) <;> (simp only [List.length_set]; first | assumption | rfl)
        obtain ⟨L96, q_L96⟩ : ∃ z, (if dle ((L33.set n35.toNatClampNeg v87).getD n34.toNatClampNeg 0) ((L33.set n35.toNatClampNeg v87).getD n35.toNatClampNeg 0) then (L38.set n35.toNatClampNeg (1 : Int32)) else ((L38.set n34.toNatClampNeg (1 : Int32)).set n35.toNatClampNeg (0 : Int32))) = z := ⟨_, rfl⟩
        rw [q_L96] at gq90_2 hl95
        have V_b4_11 := gq90_2
        have hp_90 : Hp4 n93 n94 n28 n36 L96 L92 := by rw [← q_L92, ← q_n94, ← q_n93, ← q_L96]; exact gq90_3
        have nnk_90 : NNk L92 := by rw [← q_L92]; exact gq90_4
        replace Z0 := Nat.le_trans Z0 Kq90.1
        have R5 : Rel L92 (DD.set n35.toNatClampNeg v87) := by rw [← q_L92]; exact own_relset R4 rg_n35 hl32 hlD
        have nD5 : NNk (DD.set n35.toNatClampNeg v87) := own_nnk nD4 D_v87.1.ne_nan (own_rgl rg_n35 hlD)
        refine own_aload X90 hx hby rfl rfl at_115 (pc' := 117) rfl ?_
        refine own_virtual X90 hx hby hZ (y := (⟨"com/example/cross_town/crosstown/solve/NodeHeap", "poll", "()I"⟩ : MethodName)) (y' := (⟨"com/example/cross_town/crosstown/solve/NodeHeap", "poll", "()I"⟩ : MethodName)) (C := "com/example/cross_town/crosstown/solve/NodeHeap") (rest := []) hown (hw _ (List.mem_of_getElem? (i := 37) rfl)) (hw _ (List.mem_of_getElem? (i := 38) rfl)) (notFace_of_selects (args := #[]) (mvT hZ (hw _ (List.mem_of_getElem? (i := 40) rfl)))) (hw _ (List.mem_of_getElem? (i := 40) rfl)) (hw _ (List.mem_of_getElem? (i := 39) rfl)) (hw _ (List.mem_of_getElem? (i := 41) rfl)) (hw _ (List.mem_of_getElem? (i := 3) rfl)) (by decide) (rm74 l Z a0 hw [] b10 b2_11 b4_11 b6_11 n93 n94 n28 n36 L96 L92 h90 n0 Z0 E_b10 F_b10_heap F_b10_position F_b10_key V_b2_11 V_b4_11 (by first | assumption | rfl | (simp only [List.length_set]; first | assumption | rfl)) V_b6_11 (by first | assumption | rfl | (simp only [List.length_set]; first | assumption | rfl)) F_b10_size nnk_90 hp_90 g_b4_11 ne_b10_b4_11 ne_b2_11_b4_11 (Ne.symm ne_b4_11_b6_11) g_b10 (Ne.symm ne_b10_b2_11) (Ne.symm ne_b10_b6_11) g_b2_11 (Ne.symm ne_b2_11_b6_11)) eH90 (by rw [hml]; rfl) (a := b10) E_b10 (argsL := []) rfl (lenOf pd_4 rfl) rfl at_117 (pc' := 120) rfl (by decide) (W := 0) (Nat.le_of_eq rfl) (by decide) (by decide) (by decide) (fun T97 h97 Lc97 v97r X97 eH97 hQ97 => ?_)
        obtain ⟨rfl, Nq97, Kq97, gq97_0, gq97_1, gq97_2, gq97_3, gq97_4, gq97_5, gq97_6, gq97_7, gq97_8, gq97_9, gq97_10, gq97_11⟩ := hQ97
        have N97 := Fr.app N90 Nq97
        replace E_b1 := E_b1.keep Kq97
        replace V_b1 := V_b1.keep Kq97 (ninS ne_b1_b4_11 (ninS ne_b1_b10 (ninS ne_b1_b2_11 nin0)))
        replace E_b10 := E_b10.keep Kq97
        replace E_b2_11 := E_b2_11.keep Kq97
        replace E_b4_11 := E_b4_11.keep Kq97
        replace E_b6_11 := E_b6_11.keep Kq97
        replace V_b6_11 := V_b6_11.keep Kq97 (ninS (Ne.symm ne_b4_11_b6_11) (ninS (Ne.symm ne_b10_b6_11) (ninS (Ne.symm ne_b2_11_b6_11) nin0)))
        have hl98 : (if dlt (L92.getD n28.toNatClampNeg 0) (L92.getD n94.toNatClampNeg 0) then (if dle (L92.getD n36.toNatClampNeg 0) (L92.getD n28.toNatClampNeg 0) then ((L96.set n93.toNatClampNeg (-1 : Int32)).set n36.toNatClampNeg (0 : Int32)) else (((L96.set n93.toNatClampNeg (-1 : Int32)).set n28.toNatClampNeg (0 : Int32)).set n36.toNatClampNeg (2 : Int32))) else (if dle (L92.getD n36.toNatClampNeg 0) (L92.getD n94.toNatClampNeg 0) then ((L96.set n93.toNatClampNeg (-1 : Int32)).set n36.toNatClampNeg (0 : Int32)) else (((L96.set n93.toNatClampNeg (-1 : Int32)).set n94.toNatClampNeg (0 : Int32)).set n36.toNatClampNeg (1 : Int32)))).length = 4 := by (repeat' split) <;> (simp only [List.length_set]; first | assumption | rfl)
        obtain ⟨L99, q_L99⟩ : ∃ z, (if dlt (L92.getD n28.toNatClampNeg 0) (L92.getD n94.toNatClampNeg 0) then (if dle (L92.getD n36.toNatClampNeg 0) (L92.getD n28.toNatClampNeg 0) then ((L96.set n93.toNatClampNeg (-1 : Int32)).set n36.toNatClampNeg (0 : Int32)) else (((L96.set n93.toNatClampNeg (-1 : Int32)).set n28.toNatClampNeg (0 : Int32)).set n36.toNatClampNeg (2 : Int32))) else (if dle (L92.getD n36.toNatClampNeg 0) (L92.getD n94.toNatClampNeg 0) then ((L96.set n93.toNatClampNeg (-1 : Int32)).set n36.toNatClampNeg (0 : Int32)) else (((L96.set n93.toNatClampNeg (-1 : Int32)).set n94.toNatClampNeg (0 : Int32)).set n36.toNatClampNeg (1 : Int32)))) = z := ⟨_, rfl⟩
        rw [q_L99] at gq97_0 hl98
        have V_b4_11 := gq97_0
        have E_b10 := gq97_1
        have F_b10_heap := gq97_2
        have F_b10_position := gq97_3
        have F_b10_key := gq97_4
        have F_b10_size := gq97_5
        obtain ⟨n100, q_n100⟩ : ∃ z : Int32, (if dlt (L92.getD n28.toNatClampNeg 0) (L92.getD n94.toNatClampNeg 0) then (if dle (L92.getD n36.toNatClampNeg 0) (L92.getD n28.toNatClampNeg 0) then n36 else n28) else (if dle (L92.getD n36.toNatClampNeg 0) (L92.getD n94.toNatClampNeg 0) then n36 else n94)) = z := ⟨_, rfl⟩
        obtain ⟨n101, q_n101⟩ : ∃ z : Int32, (if dlt (L92.getD n28.toNatClampNeg 0) (L92.getD n94.toNatClampNeg 0) then (if dle (L92.getD n36.toNatClampNeg 0) (L92.getD n28.toNatClampNeg 0) then n94 else n94) else (if dle (L92.getD n36.toNatClampNeg 0) (L92.getD n94.toNatClampNeg 0) then n94 else n36)) = z := ⟨_, rfl⟩
        obtain ⟨n102, q_n102⟩ : ∃ z : Int32, (if dlt (L92.getD n28.toNatClampNeg 0) (L92.getD n94.toNatClampNeg 0) then (if dle (L92.getD n36.toNatClampNeg 0) (L92.getD n28.toNatClampNeg 0) then n28 else n36) else (if dle (L92.getD n36.toNatClampNeg 0) (L92.getD n94.toNatClampNeg 0) then n28 else n28)) = z := ⟨_, rfl⟩
        have V_b2_11 : Ary tr Z h97 b2_11 .int [(.int n100), (.int n101), (.int n102), (.int n36)] := by rw [← q_n100, ← q_n101, ← q_n102]; exact gq97_6
        have hp_97 : Hp3 n100 n101 n102 L99 L92 := by rw [← q_n102, ← q_n101, ← q_n100, ← q_L99]; exact gq97_7
        have ab_97 : ∀ z : Int32, (0 ≤ z.toInt ∧ z.toInt < 4) → pv L96 z = -1 → pv L99 z = -1 := by rw [← q_L99]; exact gq97_8
        have go_97 : pv L99 n93 = -1 := by rw [← q_L99]; exact gq97_9
        have rg_97 : 0 ≤ n93.toInt ∧ n93.toInt < 4 := gq97_10
        have mn_97 : kv L92 n93 ≤ kv L92 n100 ∧ kv L92 n93 ≤ kv L92 n101 ∧ kv L92 n93 ≤ kv L92 n102 := by rw [← q_n102, ← q_n101, ← q_n100]; exact gq97_11
        replace Z0 := Nat.le_trans Z0 Kq97.1
        refine own_istore X97 hx hby (L' := #[.val (.int p0), .val (.int p1), .val (.int p2), .val (.int p3), .val (.int p4), .val (.int p5), .val (.ref b1), .val (.ref b10), .val (.int n35), .val (.double v87), .second, .val (.int n93), .unset, .unset, .unset, .unset, .unset]) rfl at_120 (pc' := 122) rfl ?_
        have rg_n93 := rg_97
        refine own_aload X97 hx hby rfl rfl at_122 (pc' := 124) rfl ?_
        refine own_virtual X97 hx hby hZ (y := (⟨"com/example/cross_town/crosstown/solve/NodeHeap", "poll", "()I"⟩ : MethodName)) (y' := (⟨"com/example/cross_town/crosstown/solve/NodeHeap", "poll", "()I"⟩ : MethodName)) (C := "com/example/cross_town/crosstown/solve/NodeHeap") (rest := []) hown (hw _ (List.mem_of_getElem? (i := 37) rfl)) (hw _ (List.mem_of_getElem? (i := 38) rfl)) (notFace_of_selects (args := #[]) (mvT hZ (hw _ (List.mem_of_getElem? (i := 40) rfl)))) (hw _ (List.mem_of_getElem? (i := 40) rfl)) (hw _ (List.mem_of_getElem? (i := 39) rfl)) (hw _ (List.mem_of_getElem? (i := 41) rfl)) (hw _ (List.mem_of_getElem? (i := 3) rfl)) (by decide) (rm73 l Z a0 hw [] b10 b2_11 b4_11 b6_11 n100 n101 n102 n36 L99 L92 h97 n0 Z0 E_b10 F_b10_heap F_b10_position F_b10_key V_b2_11 V_b4_11 (by first | assumption | rfl | (simp only [List.length_set]; first | assumption | rfl)) V_b6_11 (by first | assumption | rfl | (simp only [List.length_set]; first | assumption | rfl)) F_b10_size nnk_90 hp_97 g_b4_11 ne_b10_b4_11 ne_b2_11_b4_11 (Ne.symm ne_b4_11_b6_11) g_b10 (Ne.symm ne_b10_b2_11) (Ne.symm ne_b10_b6_11) g_b2_11 (Ne.symm ne_b2_11_b6_11)) eH97 (by rw [hml]; rfl) (a := b10) E_b10 (argsL := []) rfl (lenOf pd_4 rfl) rfl at_124 (pc' := 127) rfl (by decide) (W := 0) (Nat.le_of_eq rfl) (by decide) (by decide) (by decide) (fun T103 h103 Lc103 v103r X103 eH103 hQ103 => ?_)
        obtain ⟨rfl, Nq103, Kq103, gq103_0, gq103_1, gq103_2, gq103_3, gq103_4, gq103_5, gq103_6, gq103_7, gq103_8, gq103_9, gq103_10, gq103_11⟩ := hQ103
        have N103 := Fr.app N97 Nq103
        replace E_b1 := E_b1.keep Kq103
        replace V_b1 := V_b1.keep Kq103 (ninS ne_b1_b4_11 (ninS ne_b1_b10 (ninS ne_b1_b2_11 nin0)))
        replace E_b10 := E_b10.keep Kq103
        replace E_b2_11 := E_b2_11.keep Kq103
        replace E_b4_11 := E_b4_11.keep Kq103
        replace E_b6_11 := E_b6_11.keep Kq103
        replace V_b6_11 := V_b6_11.keep Kq103 (ninS (Ne.symm ne_b4_11_b6_11) (ninS (Ne.symm ne_b10_b6_11) (ninS (Ne.symm ne_b2_11_b6_11) nin0)))
        have hl104 : (if dle (L92.getD n102.toNatClampNeg 0) (L92.getD n101.toNatClampNeg 0) then ((L99.set n100.toNatClampNeg (-1 : Int32)).set n102.toNatClampNeg (0 : Int32)) else (((L99.set n100.toNatClampNeg (-1 : Int32)).set n101.toNatClampNeg (0 : Int32)).set n102.toNatClampNeg (1 : Int32))).length = 4 := by (repeat' split) <;> (simp only [List.length_set]; first | assumption | rfl)
        obtain ⟨L105, q_L105⟩ : ∃ z, (if dle (L92.getD n102.toNatClampNeg 0) (L92.getD n101.toNatClampNeg 0) then ((L99.set n100.toNatClampNeg (-1 : Int32)).set n102.toNatClampNeg (0 : Int32)) else (((L99.set n100.toNatClampNeg (-1 : Int32)).set n101.toNatClampNeg (0 : Int32)).set n102.toNatClampNeg (1 : Int32))) = z := ⟨_, rfl⟩
        rw [q_L105] at gq103_0 hl104
        have V_b4_11 := gq103_0
        have E_b10 := gq103_1
        have F_b10_heap := gq103_2
        have F_b10_position := gq103_3
        have F_b10_key := gq103_4
        have F_b10_size := gq103_5
        obtain ⟨n106, q_n106⟩ : ∃ z : Int32, (if dle (L92.getD n102.toNatClampNeg 0) (L92.getD n101.toNatClampNeg 0) then n102 else n101) = z := ⟨_, rfl⟩
        obtain ⟨n107, q_n107⟩ : ∃ z : Int32, (if dle (L92.getD n102.toNatClampNeg 0) (L92.getD n101.toNatClampNeg 0) then n101 else n102) = z := ⟨_, rfl⟩
        have V_b2_11 : Ary tr Z h103 b2_11 .int [(.int n106), (.int n107), (.int n102), (.int n36)] := by rw [← q_n106, ← q_n107]; exact gq103_6
        have hp_103 : Hp2 n106 n107 L105 L92 := by rw [← q_n107, ← q_n106, ← q_L105]; exact gq103_7
        have ab_103 : ∀ z : Int32, (0 ≤ z.toInt ∧ z.toInt < 4) → pv L99 z = -1 → pv L105 z = -1 := by rw [← q_L105]; exact gq103_8
        have go_103 : pv L105 n100 = -1 := by rw [← q_L105]; exact gq103_9
        have rg_103 : 0 ≤ n100.toInt ∧ n100.toInt < 4 := gq103_10
        have mn_103 : kv L92 n100 ≤ kv L92 n106 ∧ kv L92 n100 ≤ kv L92 n107 := by rw [← q_n107, ← q_n106]; exact gq103_11
        replace Z0 := Nat.le_trans Z0 Kq103.1
        as_aux_lemma =>
          refine own_istore X103 hx hby (L' := #[.val (.int p0), .val (.int p1), .val (.int p2), .val (.int p3), .val (.int p4), .val (.int p5), .val (.ref b1), .val (.ref b10), .val (.int n35), .val (.double v87), .second, .val (.int n93), .val (.int n100), .unset, .unset, .unset, .unset]) rfl at_127 (pc' := 129) rfl ?_
          have rg_n100 := rg_103
          refine own_aload X103 hx hby rfl rfl at_129 (pc' := 131) rfl ?_
          refine own_virtual X103 hx hby hZ (y := (⟨"com/example/cross_town/crosstown/solve/NodeHeap", "poll", "()I"⟩ : MethodName)) (y' := (⟨"com/example/cross_town/crosstown/solve/NodeHeap", "poll", "()I"⟩ : MethodName)) (C := "com/example/cross_town/crosstown/solve/NodeHeap") (rest := []) hown (hw _ (List.mem_of_getElem? (i := 37) rfl)) (hw _ (List.mem_of_getElem? (i := 38) rfl)) (notFace_of_selects (args := #[]) (mvT hZ (hw _ (List.mem_of_getElem? (i := 40) rfl)))) (hw _ (List.mem_of_getElem? (i := 40) rfl)) (hw _ (List.mem_of_getElem? (i := 39) rfl)) (hw _ (List.mem_of_getElem? (i := 41) rfl)) (hw _ (List.mem_of_getElem? (i := 3) rfl)) (by decide) (rm72 l Z a0 hw [] b10 b2_11 b4_11 b6_11 n106 n107 n102 n36 L105 L92 h103 n0 Z0 E_b10 F_b10_heap F_b10_position F_b10_key V_b2_11 V_b4_11 (by first | assumption | rfl | (simp only [List.length_set]; first | assumption | rfl)) V_b6_11 (by first | assumption | rfl | (simp only [List.length_set]; first | assumption | rfl)) F_b10_size nnk_90 hp_103 g_b4_11 ne_b10_b4_11 ne_b2_11_b4_11 (Ne.symm ne_b4_11_b6_11) g_b10 (Ne.symm ne_b10_b2_11) (Ne.symm ne_b10_b6_11) g_b2_11 (Ne.symm ne_b2_11_b6_11)) eH103 (by rw [hml]; rfl) (a := b10) E_b10 (argsL := []) rfl (lenOf pd_4 rfl) rfl at_131 (pc' := 134) rfl (by decide) (W := 0) (Nat.le_of_eq rfl) (by decide) (by decide) (by decide) (fun T108 h108 Lc108 v108r X108 eH108 hQ108 => ?_)
          obtain ⟨rfl, Nq108, Kq108, gq108_0, gq108_1, gq108_2, gq108_3, gq108_4, gq108_5, gq108_6, gq108_7, gq108_8, gq108_9, gq108_10, gq108_11⟩ := hQ108
          have N108 := Fr.app N103 Nq108
          replace E_b1 := E_b1.keep Kq108
          replace V_b1 := V_b1.keep Kq108 (ninS ne_b1_b4_11 (ninS ne_b1_b10 (ninS ne_b1_b2_11 nin0)))
          replace E_b10 := E_b10.keep Kq108
          replace E_b2_11 := E_b2_11.keep Kq108
          replace E_b4_11 := E_b4_11.keep Kq108
          replace E_b6_11 := E_b6_11.keep Kq108
          replace V_b6_11 := V_b6_11.keep Kq108 (ninS (Ne.symm ne_b4_11_b6_11) (ninS (Ne.symm ne_b10_b6_11) (ninS (Ne.symm ne_b2_11_b6_11) nin0)))
          have hl109 : ((L105.set n106.toNatClampNeg (-1 : Int32)).set n107.toNatClampNeg (0 : Int32)).length = 4 := by (repeat' split) <;> (simp only [List.length_set]; first | assumption | rfl)
          obtain ⟨L110, q_L110⟩ : ∃ z, ((L105.set n106.toNatClampNeg (-1 : Int32)).set n107.toNatClampNeg (0 : Int32)) = z := ⟨_, rfl⟩
          rw [q_L110] at gq108_0 hl109
          have V_b4_11 := gq108_0
          have E_b10 := gq108_1
          have F_b10_heap := gq108_2
          have F_b10_position := gq108_3
          have F_b10_key := gq108_4
          have F_b10_size := gq108_5
          have V_b2_11 := gq108_6
          have hp_108 : Hp1 n107 L110 L92 := by rw [← q_L110]; exact gq108_7
          have ab_108 : ∀ z : Int32, (0 ≤ z.toInt ∧ z.toInt < 4) → pv L105 z = -1 → pv L110 z = -1 := by rw [← q_L110]; exact gq108_8
          have go_108 : pv L110 n106 = -1 := by rw [← q_L110]; exact gq108_9
          have rg_108 : 0 ≤ n106.toInt ∧ n106.toInt < 4 := gq108_10
          have mn_108 : kv L92 n106 ≤ kv L92 n107 := gq108_11
          replace Z0 := Nat.le_trans Z0 Kq108.1
          refine own_istore X108 hx hby (L' := #[.val (.int p0), .val (.int p1), .val (.int p2), .val (.int p3), .val (.int p4), .val (.int p5), .val (.ref b1), .val (.ref b10), .val (.int n35), .val (.double v87), .second, .val (.int n93), .val (.int n100), .val (.int n106), .unset, .unset, .unset]) rfl at_134 (pc' := 136) rfl ?_
          have rg_n106 := rg_108
          refine own_aload X108 hx hby rfl rfl at_136 (pc' := 138) rfl ?_
          refine own_virtual X108 hx hby hZ (y := (⟨"com/example/cross_town/crosstown/solve/NodeHeap", "poll", "()I"⟩ : MethodName)) (y' := (⟨"com/example/cross_town/crosstown/solve/NodeHeap", "poll", "()I"⟩ : MethodName)) (C := "com/example/cross_town/crosstown/solve/NodeHeap") (rest := []) hown (hw _ (List.mem_of_getElem? (i := 37) rfl)) (hw _ (List.mem_of_getElem? (i := 38) rfl)) (notFace_of_selects (args := #[]) (mvT hZ (hw _ (List.mem_of_getElem? (i := 40) rfl)))) (hw _ (List.mem_of_getElem? (i := 40) rfl)) (hw _ (List.mem_of_getElem? (i := 39) rfl)) (hw _ (List.mem_of_getElem? (i := 41) rfl)) (hw _ (List.mem_of_getElem? (i := 3) rfl)) (by decide) (rm71 l Z a0 hw [] b10 b2_11 b4_11 b6_11 n107 n107 n102 n36 L110 L92 h108 n0 Z0 E_b10 F_b10_heap F_b10_position F_b10_key V_b2_11 V_b4_11 (by first | assumption | rfl | (simp only [List.length_set]; first | assumption | rfl)) V_b6_11 (by first | assumption | rfl | (simp only [List.length_set]; first | assumption | rfl)) F_b10_size nnk_90 hp_108 g_b4_11 ne_b10_b4_11 ne_b2_11_b4_11 (Ne.symm ne_b4_11_b6_11) g_b10 (Ne.symm ne_b10_b2_11) (Ne.symm ne_b10_b6_11)) eH108 (by rw [hml]; rfl) (a := b10) E_b10 (argsL := []) rfl (lenOf pd_4 rfl) rfl at_138 (pc' := 141) rfl (by decide) (W := 0) (Nat.le_of_eq rfl) (by decide) (by decide) (by decide) (fun T111 h111 Lc111 v111r X111 eH111 hQ111 => ?_)
          obtain ⟨rfl, Nq111, Kq111, gq111_0, gq111_1, gq111_2, gq111_3, gq111_4, gq111_5, gq111_6, gq111_7, gq111_8⟩ := hQ111
          have N111 := Fr.app N108 Nq111
          replace E_b1 := E_b1.keep Kq111
          replace V_b1 := V_b1.keep Kq111 (ninS ne_b1_b4_11 (ninS ne_b1_b10 nin0))
          replace E_b10 := E_b10.keep Kq111
          replace E_b2_11 := E_b2_11.keep Kq111
          replace V_b2_11 := V_b2_11.keep Kq111 (ninS ne_b2_11_b4_11 (ninS (Ne.symm ne_b10_b2_11) nin0))
          replace E_b4_11 := E_b4_11.keep Kq111
          replace E_b6_11 := E_b6_11.keep Kq111
          replace V_b6_11 := V_b6_11.keep Kq111 (ninS (Ne.symm ne_b4_11_b6_11) (ninS (Ne.symm ne_b10_b6_11) nin0))
          have hl112 : (L110.set n107.toNatClampNeg (-1 : Int32)).length = 4 := by (repeat' split) <;> (simp only [List.length_set]; first | assumption | rfl)
          obtain ⟨L113, q_L113⟩ : ∃ z, (L110.set n107.toNatClampNeg (-1 : Int32)) = z := ⟨_, rfl⟩
          rw [q_L113] at gq111_0 hl112
          have V_b4_11 := gq111_0
          have E_b10 := gq111_1
          have F_b10_heap := gq111_2
          have F_b10_position := gq111_3
          have F_b10_key := gq111_4
          have F_b10_size := gq111_5
          have ab_111 : ∀ z : Int32, (0 ≤ z.toInt ∧ z.toInt < 4) → pv L110 z = -1 → pv L113 z = -1 := by rw [← q_L113]; exact gq111_6
          have go_111 : pv L113 n107 = -1 := by rw [← q_L113]; exact gq111_7
          have rg_111 : 0 ≤ n107.toInt ∧ n107.toInt < 4 := gq111_8
          replace Z0 := Nat.le_trans Z0 Kq111.1
          refine own_istore X111 hx hby (L' := #[.val (.int p0), .val (.int p1), .val (.int p2), .val (.int p3), .val (.int p4), .val (.int p5), .val (.ref b1), .val (.ref b10), .val (.int n35), .val (.double v87), .second, .val (.int n93), .val (.int n100), .val (.int n106), .val (.int n107), .unset, .unset]) rfl at_141 (pc' := 143) rfl ?_
          have rg_n107 := rg_111
          have a2 := ab_103 n93 rg_n93 go_97
          have a3 := ab_108 n93 rg_n93 a2
          have b3 := ab_108 n100 rg_n100 go_103
          have n1 := own_pne go_97 (hp_97).2.2.2.1 (by decide)
          have n2 := own_pne a2 (hp_103).2.2.1 (by decide)
          have n3 := own_pne a3 (hp_108).2 (by decide)
          have n4 := own_pne go_103 (hp_103).2.2.1 (by decide)
          have n5 := own_pne b3 (hp_108).2 (by decide)
          have n6 := own_pne go_108 (hp_108).2 (by decide)
          have k1 := (mn_97).1
          have k2 := (mn_103).1
          have k3 := mn_108
          refine own_aload X111 hx hby rfl rfl at_143 (pc' := 145) rfl ?_
          refine own_virtual X111 hx hby hZ (y := (⟨"com/example/cross_town/crosstown/solve/NodeHeap", "isEmpty", "()Z"⟩ : MethodName)) (y' := (⟨"com/example/cross_town/crosstown/solve/NodeHeap", "isEmpty", "()Z"⟩ : MethodName)) (C := "com/example/cross_town/crosstown/solve/NodeHeap") (rest := []) hown (hw _ (List.mem_of_getElem? (i := 46) rfl)) (hw _ (List.mem_of_getElem? (i := 47) rfl)) (notFace_of_selects (args := #[]) (mvT hZ (hw _ (List.mem_of_getElem? (i := 49) rfl)))) (hw _ (List.mem_of_getElem? (i := 49) rfl)) (hw _ (List.mem_of_getElem? (i := 48) rfl)) (hw _ (List.mem_of_getElem? (i := 50) rfl)) (hw _ (List.mem_of_getElem? (i := 3) rfl)) (by decide) (rm9 l Z a0 hw [] b10 (0 : Int32) h111 n0 Z0 F_b10_size) eH111 (by rw [hml]; rfl) (a := b10) E_b10 (argsL := []) rfl (lenOf pd_5 rfl) rfl at_145 (pc' := 148) rfl (by decide) (W := 0) (Nat.le_of_eq rfl) (by decide) (by decide) (by decide) (fun T114 h114 Lc114 v114r X114 eH114 hQ114 => ?_)
          obtain ⟨rfl, Nq114, rfl⟩ := hQ114
          have N114 := Fr.app N111 Nq114
          dsimp only [Option.toList, List.cons_append, List.nil_append]
          generalize q_r115 : (if (0 : Int32) = 0 then (1 : Int32) else (0 : Int32)) = r115
          refine own_istore X114 hx hby (L' := #[.val (.int p0), .val (.int p1), .val (.int p2), .val (.int p3), .val (.int p4), .val (.int p5), .val (.ref b1), .val (.ref b10), .val (.int n35), .val (.double v87), .second, .val (.int n93), .val (.int n100), .val (.int n106), .val (.int n107), .val (.int r115), .unset]) rfl at_148 (pc' := 150) rfl ?_
          refine own_iload X114 hx hby rfl at_150 (pc' := 152) rfl ?_
          refine own_static X114 hx hby hZ (y := (⟨"com/example/cross_town/crosstown/solve/NodeHeapInsertOrLowerPinLaw", "inRange", "(I)Z"⟩ : MethodName)) (rest := []) hown (hw _ (List.mem_of_getElem? (i := 51) rfl)) (hw _ (List.mem_of_getElem? (i := 52) rfl)) (hw _ (List.mem_of_getElem? (i := 54) rfl)) (hw _ (List.mem_of_getElem? (i := 53) rfl)) (by decide) (rm10 l Z a0 hw [] n93 h111 n0 Z0) eH114 (by rw [hml]; rfl) (argsL := [(.int n93)]) rfl (lenOf pd_6 rfl) rfl at_152 (pc' := 155) rfl (by decide) (W := 0) (Nat.le_of_eq rfl) (by decide) (by decide) (by decide) (fun T116 h116 Lc116 v116r X116 eH116 hQ116 => ?_)
          obtain ⟨rfl, Nq116, rfl⟩ := hQ116
          have N116 := Fr.app N114 Nq116
          dsimp only [Option.toList, List.cons_append, List.nil_append]
          generalize q_r117 : (if n93 < 0 then (0 : Int32) else (if n93 < (4 : Int32) then (1 : Int32) else (0 : Int32))) = r117
          have hk118 : ¬ (r117 = 0) := own_okr rg_n93 q_r117
          refine own_ifF X116 hx hby at_155 (own_i0_eq_n hk118) (pc' := 158) rfl ?_
          refine own_iload X116 hx hby rfl at_158 (pc' := 160) rfl ?_
          refine own_static X116 hx hby hZ (y := (⟨"com/example/cross_town/crosstown/solve/NodeHeapInsertOrLowerPinLaw", "inRange", "(I)Z"⟩ : MethodName)) (rest := []) hown (hw _ (List.mem_of_getElem? (i := 51) rfl)) (hw _ (List.mem_of_getElem? (i := 52) rfl)) (hw _ (List.mem_of_getElem? (i := 54) rfl)) (hw _ (List.mem_of_getElem? (i := 53) rfl)) (by decide) (rm10 l Z a0 hw [] n100 h111 n0 Z0) eH116 (by rw [hml]; rfl) (argsL := [(.int n100)]) rfl (lenOf pd_6 rfl) rfl at_160 (pc' := 163) rfl (by decide) (W := 0) (Nat.le_of_eq rfl) (by decide) (by decide) (by decide) (fun T119 h119 Lc119 v119r X119 eH119 hQ119 => ?_)
          obtain ⟨rfl, Nq119, rfl⟩ := hQ119
          have N119 := Fr.app N116 Nq119
          dsimp only [Option.toList, List.cons_append, List.nil_append]
          generalize q_r120 : (if n100 < 0 then (0 : Int32) else (if n100 < (4 : Int32) then (1 : Int32) else (0 : Int32))) = r120
          have hk121 : ¬ (r120 = 0) := own_okr rg_n100 q_r120
          refine own_ifF X119 hx hby at_163 (own_i0_eq_n hk121) (pc' := 166) rfl ?_
          refine own_iload X119 hx hby rfl at_166 (pc' := 168) rfl ?_
          refine own_static X119 hx hby hZ (y := (⟨"com/example/cross_town/crosstown/solve/NodeHeapInsertOrLowerPinLaw", "inRange", "(I)Z"⟩ : MethodName)) (rest := []) hown (hw _ (List.mem_of_getElem? (i := 51) rfl)) (hw _ (List.mem_of_getElem? (i := 52) rfl)) (hw _ (List.mem_of_getElem? (i := 54) rfl)) (hw _ (List.mem_of_getElem? (i := 53) rfl)) (by decide) (rm10 l Z a0 hw [] n106 h111 n0 Z0) eH119 (by rw [hml]; rfl) (argsL := [(.int n106)]) rfl (lenOf pd_6 rfl) rfl at_168 (pc' := 171) rfl (by decide) (W := 0) (Nat.le_of_eq rfl) (by decide) (by decide) (by decide) (fun T122 h122 Lc122 v122r X122 eH122 hQ122 => ?_)
          obtain ⟨rfl, Nq122, rfl⟩ := hQ122
          have N122 := Fr.app N119 Nq122
          dsimp only [Option.toList, List.cons_append, List.nil_append]
          generalize q_r123 : (if n106 < 0 then (0 : Int32) else (if n106 < (4 : Int32) then (1 : Int32) else (0 : Int32))) = r123
          have hk124 : ¬ (r123 = 0) := own_okr rg_n106 q_r123
          refine own_ifF X122 hx hby at_171 (own_i0_eq_n hk124) (pc' := 174) rfl ?_
          refine own_iload X122 hx hby rfl at_174 (pc' := 176) rfl ?_
          refine own_static X122 hx hby hZ (y := (⟨"com/example/cross_town/crosstown/solve/NodeHeapInsertOrLowerPinLaw", "inRange", "(I)Z"⟩ : MethodName)) (rest := []) hown (hw _ (List.mem_of_getElem? (i := 51) rfl)) (hw _ (List.mem_of_getElem? (i := 52) rfl)) (hw _ (List.mem_of_getElem? (i := 54) rfl)) (hw _ (List.mem_of_getElem? (i := 53) rfl)) (by decide) (rm10 l Z a0 hw [] n107 h111 n0 Z0) eH122 (by rw [hml]; rfl) (argsL := [(.int n107)]) rfl (lenOf pd_6 rfl) rfl at_176 (pc' := 179) rfl (by decide) (W := 0) (Nat.le_of_eq rfl) (by decide) (by decide) (by decide) (fun T125 h125 Lc125 v125r X125 eH125 hQ125 => ?_)
          obtain ⟨rfl, Nq125, rfl⟩ := hQ125
          have N125 := Fr.app N122 Nq125
          dsimp only [Option.toList, List.cons_append, List.nil_append]
          generalize q_r126 : (if n107 < 0 then (0 : Int32) else (if n107 < (4 : Int32) then (1 : Int32) else (0 : Int32))) = r126
          have hk127 : ¬ (r126 = 0) := own_okr rg_n107 q_r126
          refine own_ifT X125 hx hby at_179 (own_i0_ne_n hk127) (by decide) (pc' := 184) (by decide) ?_
          refine own_iconst X125 hx hby (v := (1 : Int32)) (by decide) at_184 (pc' := 185) rfl ?_
          refine own_iload X125 hx hby rfl at_185 (pc' := 187) rfl ?_
          refine own_ishl X125 hx hby rfl at_187 (pc' := 188) rfl ?_
          refine own_iconst X125 hx hby (v := (1 : Int32)) (by decide) at_188 (pc' := 189) rfl ?_
          refine own_iload X125 hx hby rfl at_189 (pc' := 191) rfl ?_
          refine own_ishl X125 hx hby rfl at_191 (pc' := 192) rfl ?_
          refine own_ior X125 hx hby rfl at_192 (pc' := 193) rfl ?_
          refine own_iconst X125 hx hby (v := (1 : Int32)) (by decide) at_193 (pc' := 194) rfl ?_
          refine own_iload X125 hx hby rfl at_194 (pc' := 196) rfl ?_
          refine own_ishl X125 hx hby rfl at_196 (pc' := 197) rfl ?_
          refine own_ior X125 hx hby rfl at_197 (pc' := 198) rfl ?_
          refine own_iconst X125 hx hby (v := (1 : Int32)) (by decide) at_198 (pc' := 199) rfl ?_
          as_aux_lemma =>
            refine own_iload X125 hx hby rfl at_199 (pc' := 201) rfl ?_
            refine own_ishl X125 hx hby rfl at_201 (pc' := 202) rfl ?_
            refine own_ior X125 hx hby rfl at_202 (pc' := 203) rfl ?_
            generalize q_n128 : (((((1 : Int32) <<< (n93 &&& 31)) ||| ((1 : Int32) <<< (n100 &&& 31))) ||| ((1 : Int32) <<< (n106 &&& 31))) ||| ((1 : Int32) <<< (n107 &&& 31))) = n128
            refine own_istore X125 hx hby (L' := #[.val (.int p0), .val (.int p1), .val (.int p2), .val (.int p3), .val (.int p4), .val (.int p5), .val (.ref b1), .val (.ref b10), .val (.int n35), .val (.double v87), .second, .val (.int n93), .val (.int n100), .val (.int n106), .val (.int n107), .val (.int r115), .val (.int n128)]) rfl at_203 (pc' := 205) rfl ?_
            refine own_iload X125 hx hby rfl at_205 (pc' := 207) rfl ?_
            have hk129 : ¬ (r115 = 0) := by rw [← q_r115]; decide
            refine own_ifF X125 hx hby at_207 (own_i0_eq_n hk129) (pc' := 210) rfl ?_
            refine own_iload X125 hx hby rfl at_210 (pc' := 212) rfl ?_
            refine own_bipush X125 hx hby (v := (15 : Int32)) (by decide) at_212 (pc' := 214) rfl ?_
            have hk130 : n128 = (15 : Int32) := q_n128.symm.trans (own_mask15 rg_n93 rg_n100 rg_n106 rg_n107 n1 n2 n3 n4 n5 n6)
            refine own_icF X125 hx hby at_214 (own_ic_ne_p hk130) (pc' := 217) rfl ?_
            refine own_aload X125 hx hby rfl rfl at_217 (pc' := 219) rfl ?_
            refine own_iload X125 hx hby rfl at_219 (pc' := 221) rfl ?_
            refine own_daload X125 hx hby hZ eH125 V_b1 (own_rg0 rg_n93) (v := (.double ((DD.set n35.toNatClampNeg v87).getD n93.toNatClampNeg 0))) (own_lget (own_rgl rg_n93 hl89)) at_221 (pc' := 222) rfl ?_
            refine own_aload X125 hx hby rfl rfl at_222 (pc' := 224) rfl ?_
            refine own_iload X125 hx hby rfl at_224 (pc' := 226) rfl ?_
            refine own_daload X125 hx hby hZ eH125 V_b1 (own_rg0 rg_n100) (v := (.double ((DD.set n35.toNatClampNeg v87).getD n100.toNatClampNeg 0))) (own_lget (own_rgl rg_n100 hl89)) at_226 (pc' := 227) rfl ?_
            refine own_dcmp X125 hx hby rfl at_227 (pc' := 228) rfl ?_
            have hk131 : dle ((DD.set n35.toNatClampNeg v87).getD n93.toNatClampNeg 0) ((DD.set n35.toNatClampNeg v87).getD n100.toNatClampNeg 0) := own_dled R5 nD5 rg_n93 rg_n100 k1
            refine own_ifF X125 hx hby at_228 (own_dg_gt_p hk131) (pc' := 231) rfl ?_
            refine own_aload X125 hx hby rfl rfl at_231 (pc' := 233) rfl ?_
            refine own_iload X125 hx hby rfl at_233 (pc' := 235) rfl ?_
            refine own_daload X125 hx hby hZ eH125 V_b1 (own_rg0 rg_n100) (v := (.double ((DD.set n35.toNatClampNeg v87).getD n100.toNatClampNeg 0))) (own_lget (own_rgl rg_n100 hl89)) at_235 (pc' := 236) rfl ?_
            refine own_aload X125 hx hby rfl rfl at_236 (pc' := 238) rfl ?_
            refine own_iload X125 hx hby rfl at_238 (pc' := 240) rfl ?_
            refine own_daload X125 hx hby hZ eH125 V_b1 (own_rg0 rg_n106) (v := (.double ((DD.set n35.toNatClampNeg v87).getD n106.toNatClampNeg 0))) (own_lget (own_rgl rg_n106 hl89)) at_240 (pc' := 241) rfl ?_
            refine own_dcmp X125 hx hby rfl at_241 (pc' := 242) rfl ?_
            have hk132 : dle ((DD.set n35.toNatClampNeg v87).getD n100.toNatClampNeg 0) ((DD.set n35.toNatClampNeg v87).getD n106.toNatClampNeg 0) := own_dled R5 nD5 rg_n100 rg_n106 k2
            refine own_ifF X125 hx hby at_242 (own_dg_gt_p hk132) (pc' := 245) rfl ?_
            refine own_aload X125 hx hby rfl rfl at_245 (pc' := 247) rfl ?_
            refine own_iload X125 hx hby rfl at_247 (pc' := 249) rfl ?_
            refine own_daload X125 hx hby hZ eH125 V_b1 (own_rg0 rg_n106) (v := (.double ((DD.set n35.toNatClampNeg v87).getD n106.toNatClampNeg 0))) (own_lget (own_rgl rg_n106 hl89)) at_249 (pc' := 250) rfl ?_
            refine own_aload X125 hx hby rfl rfl at_250 (pc' := 252) rfl ?_
            refine own_iload X125 hx hby rfl at_252 (pc' := 254) rfl ?_
            refine own_daload X125 hx hby hZ eH125 V_b1 (own_rg0 rg_n107) (v := (.double ((DD.set n35.toNatClampNeg v87).getD n107.toNatClampNeg 0))) (own_lget (own_rgl rg_n107 hl89)) at_254 (pc' := 255) rfl ?_
            refine own_dcmp X125 hx hby rfl at_255 (pc' := 256) rfl ?_
            have hk133 : dle ((DD.set n35.toNatClampNeg v87).getD n106.toNatClampNeg 0) ((DD.set n35.toNatClampNeg v87).getD n107.toNatClampNeg 0) := own_dled R5 nD5 rg_n106 rg_n107 k3
            refine own_ifF X125 hx hby at_256 (own_dg_gt_p hk133) (pc' := 259) rfl ?_
            refine own_iconst X125 hx hby (v := (1 : Int32)) (by decide) at_259 (pc' := 260) rfl ?_
            refine own_goto X125 hx hby at_260 (by decide) (pc' := 264) (by decide) ?_
            exact own_retZ X125 hx hby Bd.notSynchronized Bd.returns (Or.inr rfl) at_264 (by decide) (by decide) eH125 ⟨rfl, N125⟩
    · have rg_n28 := own_m3 q_n39
      as_aux_lemma =>
        refine own_aload X31 hx hby rfl rfl at_85 (pc' := 87) rfl ?_
        refine own_iload X31 hx hby rfl at_87 (pc' := 89) rfl ?_
        refine own_daload X31 hx hby hZ eH31 V_b1 (own_rg0 rg_n28) (v := (.double (DD.getD n28.toNatClampNeg 0))) (own_lget (own_rgl rg_n28 hlD)) at_89 (pc' := 90) rfl ?_
        refine own_iload X31 hx hby rfl at_90 (pc' := 92) rfl ?_
        refine own_ldcI X31 hx hby hZ hown (hw _ (List.mem_of_getElem? (i := 36) rfl)) at_92 (pc' := 94) rfl ?_
        refine own_iand X31 hx hby rfl at_94 (pc' := 95) rfl ?_
        obtain ⟨v134, q_v134⟩ : ∃ z : UInt64, (FP.i2d (p5 &&& (2147483647 : Int32))) = z := ⟨_, rfl⟩
        have D_v134 : Dy v134 (p5 &&& (2147483647 : Int32)).toInt 0 := q_v134 ▸ dy_i2d (p5 &&& (2147483647 : Int32))
        refine own_i2d X31 hx hby q_v134 at_95 (pc' := 96) rfl ?_
        obtain ⟨v135, q_v135⟩ : ∃ z : UInt64, (FP.dsub (DD.getD n28.toNatClampNeg 0) v134) = z := ⟨_, rfl⟩
        obtain ⟨e8, De8⟩ : ∃ e : Int32, Dy (DD.getD n28.toNatClampNeg 0) e.toInt 0 := by rw [← q_DD]; exact own_dg D_v2 D_v4 D_v6 D_v8 rg_n28
        have D_v135 := De8.sub D_v134 (by have := rng32 e8; have := own_m31 p5; omega) (by omega)
        rw [q_v135] at D_v135
        have nn_v135 := D_v135.nn
        have low : zv v135 ≤ zv (DD.getD n28.toNatClampNeg 0) := (Dy.zle D_v135 De8).1.mpr (by have := own_m31 p5; omega)
        refine own_dsub X31 hx hby (by rw [q_v135]; exact nn_v135) q_v135 at_96 (pc' := 97) rfl ?_
        refine own_dstore X31 hx hby (L' := #[.val (.int p0), .val (.int p1), .val (.int p2), .val (.int p3), .val (.int p4), .val (.int p5), .val (.ref b1), .val (.ref b10), .val (.int n28), .val (.double v135), .second, .unset, .unset, .unset, .unset, .unset, .unset]) rfl at_97 (pc' := 99) rfl ?_
        refine own_aload X31 hx hby rfl rfl at_99 (pc' := 101) rfl ?_
        refine own_iload X31 hx hby rfl at_101 (pc' := 103) rfl ?_
        refine own_dload X31 hx hby rfl at_103 (pc' := 105) rfl ?_
        refine own_dastore X31 hx hby hZ eH31 V_b1 (own_rg0 rg_n28) (n := n28.toNatClampNeg) rfl (by rw [List.length_map]; exact own_rgl rg_n28 hlD) at_105 (pc' := 106) rfl (fun T136 h136 X136 eH136 W136 => ?_)
        replace E_b1 := E_b1.wr W136
        replace E_b10 := E_b10.wr W136
        replace F_b10_heap := F_b10_heap.other W136 (Or.inl (Ne.symm ne_b1_b10))
        replace F_b10_position := F_b10_position.other W136 (Or.inl (Ne.symm ne_b1_b10))
        replace F_b10_key := F_b10_key.other W136 (Or.inl (Ne.symm ne_b1_b10))
        replace F_b10_size := F_b10_size.other W136 (Or.inl (Ne.symm ne_b1_b10))
        replace E_b2_11 := E_b2_11.wr W136
        replace V_b2_11 := V_b2_11.other W136 (Ne.symm ne_b1_b2_11)
        replace E_b4_11 := E_b4_11.wr W136
        replace V_b4_11 := V_b4_11.other W136 (Ne.symm ne_b1_b4_11)
        replace E_b6_11 := E_b6_11.wr W136
        replace V_b6_11 := V_b6_11.other W136 (Ne.symm ne_b1_b6_11)
        have N136 := Fr.snoc X136 N31 g_b1
        replace Z0 := Nat.le_trans Z0 (Nat.le_of_eq W136.size.symm)
        have hl137 : (DD.set n28.toNatClampNeg v135).length = 4 := by rw [List.length_set]; exact hlD
        replace V_b1 : Ary tr Z h136 b1 .double ((DD.set n28.toNatClampNeg v135).map Value.double) := by rw [List.map_set]; exact V_b1.set W136
        refine own_aload X136 hx hby rfl rfl at_106 (pc' := 108) rfl ?_
        refine own_iload X136 hx hby rfl at_108 (pc' := 110) rfl ?_
        refine own_dload X136 hx hby rfl at_110 (pc' := 112) rfl ?_
        refine own_virtual X136 hx hby hZ (y := (⟨"com/example/cross_town/crosstown/solve/NodeHeap", "insertOrLower", "(ID)V"⟩ : MethodName)) (y' := (⟨"com/example/cross_town/crosstown/solve/NodeHeap", "insertOrLower", "(ID)V"⟩ : MethodName)) (C := "com/example/cross_town/crosstown/solve/NodeHeap") (rest := []) hown (hw _ (List.mem_of_getElem? (i := 21) rfl)) (hw _ (List.mem_of_getElem? (i := 22) rfl)) (notFace_of_selects (args := #[]) (mvT hZ (hw _ (List.mem_of_getElem? (i := 24) rfl)))) (hw _ (List.mem_of_getElem? (i := 24) rfl)) (hw _ (List.mem_of_getElem? (i := 23) rfl)) (hw _ (List.mem_of_getElem? (i := 25) rfl)) (hw _ (List.mem_of_getElem? (i := 3) rfl)) (by decide) (rm4l42 l Z a0 hw [] b10 n28 v135 b2_11 b4_11 b6_11 n34 n35 n36 L38 L33 h136 n0 Z0 E_b10 F_b10_heap F_b10_position F_b10_key F_b10_size V_b2_11 V_b4_11 (by first | assumption | rfl | (simp only [List.length_set]; first | assumption | rfl)) V_b6_11 (by first | assumption | rfl | (simp only [List.length_set]; first | assumption | rfl)) nnk_31 D_v135.1.ne_nan hp_31 (by rw [R4 n28 rg_n28]; exact low) g_b6_11 ne_b10_b6_11 ne_b2_11_b6_11 ne_b4_11_b6_11 g_b2_11 ne_b10_b2_11 (Ne.symm ne_b2_11_b4_11) g_b4_11 ne_b10_b4_11) eH136 (by rw [hml]; rfl) (a := b10) E_b10 (argsL := [(.int n28), (.double v135)]) rfl (lenOf pd_3 rfl) rfl at_112 (pc' := 115) rfl (by decide) (W := 0) (Nat.le_of_eq rfl) (by decide) (by decide) (by decide) (fun T138 h138 Lc138 v138r X138 eH138 hQ138 => ?_)
        obtain ⟨rfl, Nq138, Kq138, gq138_0, gq138_1, gq138_2, gq138_3, gq138_4⟩ := hQ138
        have N138 := Fr.app N136 Nq138
        replace E_b1 := E_b1.keep Kq138
        replace V_b1 := V_b1.keep Kq138 (ninS ne_b1_b6_11 (ninS ne_b1_b2_11 (ninS ne_b1_b4_11 nin0)))
        replace E_b10 := E_b10.keep Kq138
        replace F_b10_heap := F_b10_heap.keep Kq138 (ninS ne_b10_b6_11 (ninS ne_b10_b2_11 (ninS ne_b10_b4_11 nin0)))
        replace F_b10_position := F_b10_position.keep Kq138 (ninS ne_b10_b6_11 (ninS ne_b10_b2_11 (ninS ne_b10_b4_11 nin0)))
        replace F_b10_key := F_b10_key.keep Kq138 (ninS ne_b10_b6_11 (ninS ne_b10_b2_11 (ninS ne_b10_b4_11 nin0)))
        replace F_b10_size := F_b10_size.keep Kq138 (ninS ne_b10_b6_11 (ninS ne_b10_b2_11 (ninS ne_b10_b4_11 nin0)))
        replace E_b2_11 := E_b2_11.keep Kq138
        replace E_b4_11 := E_b4_11.keep Kq138
        replace E_b6_11 := E_b6_11.keep Kq138
        have hl139 : (L33.set n28.toNatClampNeg v135).length = 4 := by (repeat' split) <;> (simp only [List.length_set]; first | assumption | rfl)
        obtain ⟨L140, q_L140⟩ : ∃ z, (L33.set n28.toNatClampNeg v135) = z := ⟨_, rfl⟩
        rw [q_L140] at gq138_0 hl139
        have V_b6_11 := gq138_0
        obtain ⟨n141, q_n141⟩ : ∃ z : Int32, (if dle ((L33.set n28.toNatClampNeg v135).getD n34.toNatClampNeg 0) ((L33.set n28.toNatClampNeg v135).getD n28.toNatClampNeg 0) then n34 else n28) = z := ⟨_, rfl⟩
        obtain ⟨n142, q_n142⟩ : ∃ z : Int32, (if dle ((L33.set n28.toNatClampNeg v135).getD n34.toNatClampNeg 0) ((L33.set n28.toNatClampNeg v135).getD n28.toNatClampNeg 0) then n28 else n34) = z := ⟨_, rfl⟩
        have V_b2_11 : Ary tr Z h138 b2_11 .int [(.int n141), (.int n35), (.int n142), (.int n36)] := by rw [← q_n141, ← q_n142]; exact gq138_1
        have hl143 : (if dle ((L33.set n28.toNatClampNeg v135).getD n34.toNatClampNeg 0) ((L33.set n28.toNatClampNeg v135).getD n28.toNatClampNeg 0) then (L38.set n28.toNatClampNeg (2 : Int32)) else ((L38.set n34.toNatClampNeg (2 : Int32)).set n28.toNatClampNeg (0 : Int32))).length = 4 := by (repeat' split) <;> (simp only [List.length_set]; first | assumption | rfl)
        obtain ⟨L144, q_L144⟩ : ∃ z, (if dle ((L33.set n28.toNatClampNeg v135).getD n34.toNatClampNeg 0) ((L33.set n28.toNatClampNeg v135).getD n28.toNatClampNeg 0) then (L38.set n28.toNatClampNeg (2 : Int32)) else ((L38.set n34.toNatClampNeg (2 : Int32)).set n28.toNatClampNeg (0 : Int32))) = z := ⟨_, rfl⟩
        rw [q_L144] at gq138_2 hl143
        have V_b4_11 := gq138_2
        have hp_138 : Hp4 n141 n35 n142 n36 L144 L140 := by rw [← q_L140, ← q_n142, ← q_n141, ← q_L144]; exact gq138_3
        have nnk_138 : NNk L140 := by rw [← q_L140]; exact gq138_4
        replace Z0 := Nat.le_trans Z0 Kq138.1
        have R5 : Rel L140 (DD.set n28.toNatClampNeg v135) := by rw [← q_L140]; exact own_relset R4 rg_n28 hl32 hlD
        have nD5 : NNk (DD.set n28.toNatClampNeg v135) := own_nnk nD4 D_v135.1.ne_nan (own_rgl rg_n28 hlD)
        refine own_aload X138 hx hby rfl rfl at_115 (pc' := 117) rfl ?_
        refine own_virtual X138 hx hby hZ (y := (⟨"com/example/cross_town/crosstown/solve/NodeHeap", "poll", "()I"⟩ : MethodName)) (y' := (⟨"com/example/cross_town/crosstown/solve/NodeHeap", "poll", "()I"⟩ : MethodName)) (C := "com/example/cross_town/crosstown/solve/NodeHeap") (rest := []) hown (hw _ (List.mem_of_getElem? (i := 37) rfl)) (hw _ (List.mem_of_getElem? (i := 38) rfl)) (notFace_of_selects (args := #[]) (mvT hZ (hw _ (List.mem_of_getElem? (i := 40) rfl)))) (hw _ (List.mem_of_getElem? (i := 40) rfl)) (hw _ (List.mem_of_getElem? (i := 39) rfl)) (hw _ (List.mem_of_getElem? (i := 41) rfl)) (hw _ (List.mem_of_getElem? (i := 3) rfl)) (by decide) (rm74 l Z a0 hw [] b10 b2_11 b4_11 b6_11 n141 n35 n142 n36 L144 L140 h138 n0 Z0 E_b10 F_b10_heap F_b10_position F_b10_key V_b2_11 V_b4_11 (by first | assumption | rfl | (simp only [List.length_set]; first | assumption | rfl)) V_b6_11 (by first | assumption | rfl | (simp only [List.length_set]; first | assumption | rfl)) F_b10_size nnk_138 hp_138 g_b4_11 ne_b10_b4_11 ne_b2_11_b4_11 (Ne.symm ne_b4_11_b6_11) g_b10 (Ne.symm ne_b10_b2_11) (Ne.symm ne_b10_b6_11) g_b2_11 (Ne.symm ne_b2_11_b6_11)) eH138 (by rw [hml]; rfl) (a := b10) E_b10 (argsL := []) rfl (lenOf pd_4 rfl) rfl at_117 (pc' := 120) rfl (by decide) (W := 0) (Nat.le_of_eq rfl) (by decide) (by decide) (by decide) (fun T145 h145 Lc145 v145r X145 eH145 hQ145 => ?_)
        obtain ⟨rfl, Nq145, Kq145, gq145_0, gq145_1, gq145_2, gq145_3, gq145_4, gq145_5, gq145_6, gq145_7, gq145_8, gq145_9, gq145_10, gq145_11⟩ := hQ145
        have N145 := Fr.app N138 Nq145
        replace E_b1 := E_b1.keep Kq145
        replace V_b1 := V_b1.keep Kq145 (ninS ne_b1_b4_11 (ninS ne_b1_b10 (ninS ne_b1_b2_11 nin0)))
        replace E_b10 := E_b10.keep Kq145
        replace E_b2_11 := E_b2_11.keep Kq145
        replace E_b4_11 := E_b4_11.keep Kq145
        replace E_b6_11 := E_b6_11.keep Kq145
        replace V_b6_11 := V_b6_11.keep Kq145 (ninS (Ne.symm ne_b4_11_b6_11) (ninS (Ne.symm ne_b10_b6_11) (ninS (Ne.symm ne_b2_11_b6_11) nin0)))
        have hl146 : (if dlt (L140.getD n142.toNatClampNeg 0) (L140.getD n35.toNatClampNeg 0) then (if dle (L140.getD n36.toNatClampNeg 0) (L140.getD n142.toNatClampNeg 0) then ((L144.set n141.toNatClampNeg (-1 : Int32)).set n36.toNatClampNeg (0 : Int32)) else (((L144.set n141.toNatClampNeg (-1 : Int32)).set n142.toNatClampNeg (0 : Int32)).set n36.toNatClampNeg (2 : Int32))) else (if dle (L140.getD n36.toNatClampNeg 0) (L140.getD n35.toNatClampNeg 0) then ((L144.set n141.toNatClampNeg (-1 : Int32)).set n36.toNatClampNeg (0 : Int32)) else (((L144.set n141.toNatClampNeg (-1 : Int32)).set n35.toNatClampNeg (0 : Int32)).set n36.toNatClampNeg (1 : Int32)))).length = 4 := by (repeat' split) <;> (simp only [List.length_set]; first | assumption | rfl)
        obtain ⟨L147, q_L147⟩ : ∃ z, (if dlt (L140.getD n142.toNatClampNeg 0) (L140.getD n35.toNatClampNeg 0) then (if dle (L140.getD n36.toNatClampNeg 0) (L140.getD n142.toNatClampNeg 0) then ((L144.set n141.toNatClampNeg (-1 : Int32)).set n36.toNatClampNeg (0 : Int32)) else (((L144.set n141.toNatClampNeg (-1 : Int32)).set n142.toNatClampNeg (0 : Int32)).set n36.toNatClampNeg (2 : Int32))) else (if dle (L140.getD n36.toNatClampNeg 0) (L140.getD n35.toNatClampNeg 0) then ((L144.set n141.toNatClampNeg (-1 : Int32)).set n36.toNatClampNeg (0 : Int32)) else (((L144.set n141.toNatClampNeg (-1 : Int32)).set n35.toNatClampNeg (0 : Int32)).set n36.toNatClampNeg (1 : Int32)))) = z := ⟨_, rfl⟩
        rw [q_L147] at gq145_0 hl146
        have V_b4_11 := gq145_0
        have E_b10 := gq145_1
        have F_b10_heap := gq145_2
        have F_b10_position := gq145_3
        have F_b10_key := gq145_4
        have F_b10_size := gq145_5
        obtain ⟨n148, q_n148⟩ : ∃ z : Int32, (if dlt (L140.getD n142.toNatClampNeg 0) (L140.getD n35.toNatClampNeg 0) then (if dle (L140.getD n36.toNatClampNeg 0) (L140.getD n142.toNatClampNeg 0) then n36 else n142) else (if dle (L140.getD n36.toNatClampNeg 0) (L140.getD n35.toNatClampNeg 0) then n36 else n35)) = z := ⟨_, rfl⟩
        obtain ⟨n149, q_n149⟩ : ∃ z : Int32, (if dlt (L140.getD n142.toNatClampNeg 0) (L140.getD n35.toNatClampNeg 0) then (if dle (L140.getD n36.toNatClampNeg 0) (L140.getD n142.toNatClampNeg 0) then n35 else n35) else (if dle (L140.getD n36.toNatClampNeg 0) (L140.getD n35.toNatClampNeg 0) then n35 else n36)) = z := ⟨_, rfl⟩
        obtain ⟨n150, q_n150⟩ : ∃ z : Int32, (if dlt (L140.getD n142.toNatClampNeg 0) (L140.getD n35.toNatClampNeg 0) then (if dle (L140.getD n36.toNatClampNeg 0) (L140.getD n142.toNatClampNeg 0) then n142 else n36) else (if dle (L140.getD n36.toNatClampNeg 0) (L140.getD n35.toNatClampNeg 0) then n142 else n142)) = z := ⟨_, rfl⟩
        have V_b2_11 : Ary tr Z h145 b2_11 .int [(.int n148), (.int n149), (.int n150), (.int n36)] := by rw [← q_n148, ← q_n149, ← q_n150]; exact gq145_6
        have hp_145 : Hp3 n148 n149 n150 L147 L140 := by rw [← q_n149, ← q_n148, ← q_n150, ← q_L147]; exact gq145_7
        have ab_145 : ∀ z : Int32, (0 ≤ z.toInt ∧ z.toInt < 4) → pv L144 z = -1 → pv L147 z = -1 := by rw [← q_L147]; exact gq145_8
        have go_145 : pv L147 n141 = -1 := by rw [← q_L147]; exact gq145_9
        have rg_145 : 0 ≤ n141.toInt ∧ n141.toInt < 4 := gq145_10
        have mn_145 : kv L140 n141 ≤ kv L140 n148 ∧ kv L140 n141 ≤ kv L140 n149 ∧ kv L140 n141 ≤ kv L140 n150 := by rw [← q_n149, ← q_n148, ← q_n150]; exact gq145_11
        replace Z0 := Nat.le_trans Z0 Kq145.1
        refine own_istore X145 hx hby (L' := #[.val (.int p0), .val (.int p1), .val (.int p2), .val (.int p3), .val (.int p4), .val (.int p5), .val (.ref b1), .val (.ref b10), .val (.int n28), .val (.double v135), .second, .val (.int n141), .unset, .unset, .unset, .unset, .unset]) rfl at_120 (pc' := 122) rfl ?_
        have rg_n141 := rg_145
        refine own_aload X145 hx hby rfl rfl at_122 (pc' := 124) rfl ?_
        refine own_virtual X145 hx hby hZ (y := (⟨"com/example/cross_town/crosstown/solve/NodeHeap", "poll", "()I"⟩ : MethodName)) (y' := (⟨"com/example/cross_town/crosstown/solve/NodeHeap", "poll", "()I"⟩ : MethodName)) (C := "com/example/cross_town/crosstown/solve/NodeHeap") (rest := []) hown (hw _ (List.mem_of_getElem? (i := 37) rfl)) (hw _ (List.mem_of_getElem? (i := 38) rfl)) (notFace_of_selects (args := #[]) (mvT hZ (hw _ (List.mem_of_getElem? (i := 40) rfl)))) (hw _ (List.mem_of_getElem? (i := 40) rfl)) (hw _ (List.mem_of_getElem? (i := 39) rfl)) (hw _ (List.mem_of_getElem? (i := 41) rfl)) (hw _ (List.mem_of_getElem? (i := 3) rfl)) (by decide) (rm73 l Z a0 hw [] b10 b2_11 b4_11 b6_11 n148 n149 n150 n36 L147 L140 h145 n0 Z0 E_b10 F_b10_heap F_b10_position F_b10_key V_b2_11 V_b4_11 (by first | assumption | rfl | (simp only [List.length_set]; first | assumption | rfl)) V_b6_11 (by first | assumption | rfl | (simp only [List.length_set]; first | assumption | rfl)) F_b10_size nnk_138 hp_145 g_b4_11 ne_b10_b4_11 ne_b2_11_b4_11 (Ne.symm ne_b4_11_b6_11) g_b10 (Ne.symm ne_b10_b2_11) (Ne.symm ne_b10_b6_11) g_b2_11 (Ne.symm ne_b2_11_b6_11)) eH145 (by rw [hml]; rfl) (a := b10) E_b10 (argsL := []) rfl (lenOf pd_4 rfl) rfl at_124 (pc' := 127) rfl (by decide) (W := 0) (Nat.le_of_eq rfl) (by decide) (by decide) (by decide) (fun T151 h151 Lc151 v151r X151 eH151 hQ151 => ?_)
        obtain ⟨rfl, Nq151, Kq151, gq151_0, gq151_1, gq151_2, gq151_3, gq151_4, gq151_5, gq151_6, gq151_7, gq151_8, gq151_9, gq151_10, gq151_11⟩ := hQ151
        have N151 := Fr.app N145 Nq151
        replace E_b1 := E_b1.keep Kq151
        replace V_b1 := V_b1.keep Kq151 (ninS ne_b1_b4_11 (ninS ne_b1_b10 (ninS ne_b1_b2_11 nin0)))
        replace E_b10 := E_b10.keep Kq151
        replace E_b2_11 := E_b2_11.keep Kq151
        replace E_b4_11 := E_b4_11.keep Kq151
        replace E_b6_11 := E_b6_11.keep Kq151
        replace V_b6_11 := V_b6_11.keep Kq151 (ninS (Ne.symm ne_b4_11_b6_11) (ninS (Ne.symm ne_b10_b6_11) (ninS (Ne.symm ne_b2_11_b6_11) nin0)))
        have hl152 : (if dle (L140.getD n150.toNatClampNeg 0) (L140.getD n149.toNatClampNeg 0) then ((L147.set n148.toNatClampNeg (-1 : Int32)).set n150.toNatClampNeg (0 : Int32)) else (((L147.set n148.toNatClampNeg (-1 : Int32)).set n149.toNatClampNeg (0 : Int32)).set n150.toNatClampNeg (1 : Int32))).length = 4 := by (repeat' split) <;> (simp only [List.length_set]; first | assumption | rfl)
        obtain ⟨L153, q_L153⟩ : ∃ z, (if dle (L140.getD n150.toNatClampNeg 0) (L140.getD n149.toNatClampNeg 0) then ((L147.set n148.toNatClampNeg (-1 : Int32)).set n150.toNatClampNeg (0 : Int32)) else (((L147.set n148.toNatClampNeg (-1 : Int32)).set n149.toNatClampNeg (0 : Int32)).set n150.toNatClampNeg (1 : Int32))) = z := ⟨_, rfl⟩
        rw [q_L153] at gq151_0 hl152
        have V_b4_11 := gq151_0
        have E_b10 := gq151_1
        have F_b10_heap := gq151_2
        have F_b10_position := gq151_3
        have F_b10_key := gq151_4
        have F_b10_size := gq151_5
        obtain ⟨n154, q_n154⟩ : ∃ z : Int32, (if dle (L140.getD n150.toNatClampNeg 0) (L140.getD n149.toNatClampNeg 0) then n150 else n149) = z := ⟨_, rfl⟩
        obtain ⟨n155, q_n155⟩ : ∃ z : Int32, (if dle (L140.getD n150.toNatClampNeg 0) (L140.getD n149.toNatClampNeg 0) then n149 else n150) = z := ⟨_, rfl⟩
        have V_b2_11 : Ary tr Z h151 b2_11 .int [(.int n154), (.int n155), (.int n150), (.int n36)] := by rw [← q_n154, ← q_n155]; exact gq151_6
        have hp_151 : Hp2 n154 n155 L153 L140 := by rw [← q_n155, ← q_n154, ← q_L153]; exact gq151_7
        have ab_151 : ∀ z : Int32, (0 ≤ z.toInt ∧ z.toInt < 4) → pv L147 z = -1 → pv L153 z = -1 := by rw [← q_L153]; exact gq151_8
        have go_151 : pv L153 n148 = -1 := by rw [← q_L153]; exact gq151_9
        have rg_151 : 0 ≤ n148.toInt ∧ n148.toInt < 4 := gq151_10
        have mn_151 : kv L140 n148 ≤ kv L140 n154 ∧ kv L140 n148 ≤ kv L140 n155 := by rw [← q_n155, ← q_n154]; exact gq151_11
        replace Z0 := Nat.le_trans Z0 Kq151.1
        as_aux_lemma =>
          refine own_istore X151 hx hby (L' := #[.val (.int p0), .val (.int p1), .val (.int p2), .val (.int p3), .val (.int p4), .val (.int p5), .val (.ref b1), .val (.ref b10), .val (.int n28), .val (.double v135), .second, .val (.int n141), .val (.int n148), .unset, .unset, .unset, .unset]) rfl at_127 (pc' := 129) rfl ?_
          have rg_n148 := rg_151
          refine own_aload X151 hx hby rfl rfl at_129 (pc' := 131) rfl ?_
          refine own_virtual X151 hx hby hZ (y := (⟨"com/example/cross_town/crosstown/solve/NodeHeap", "poll", "()I"⟩ : MethodName)) (y' := (⟨"com/example/cross_town/crosstown/solve/NodeHeap", "poll", "()I"⟩ : MethodName)) (C := "com/example/cross_town/crosstown/solve/NodeHeap") (rest := []) hown (hw _ (List.mem_of_getElem? (i := 37) rfl)) (hw _ (List.mem_of_getElem? (i := 38) rfl)) (notFace_of_selects (args := #[]) (mvT hZ (hw _ (List.mem_of_getElem? (i := 40) rfl)))) (hw _ (List.mem_of_getElem? (i := 40) rfl)) (hw _ (List.mem_of_getElem? (i := 39) rfl)) (hw _ (List.mem_of_getElem? (i := 41) rfl)) (hw _ (List.mem_of_getElem? (i := 3) rfl)) (by decide) (rm72 l Z a0 hw [] b10 b2_11 b4_11 b6_11 n154 n155 n150 n36 L153 L140 h151 n0 Z0 E_b10 F_b10_heap F_b10_position F_b10_key V_b2_11 V_b4_11 (by first | assumption | rfl | (simp only [List.length_set]; first | assumption | rfl)) V_b6_11 (by first | assumption | rfl | (simp only [List.length_set]; first | assumption | rfl)) F_b10_size nnk_138 hp_151 g_b4_11 ne_b10_b4_11 ne_b2_11_b4_11 (Ne.symm ne_b4_11_b6_11) g_b10 (Ne.symm ne_b10_b2_11) (Ne.symm ne_b10_b6_11) g_b2_11 (Ne.symm ne_b2_11_b6_11)) eH151 (by rw [hml]; rfl) (a := b10) E_b10 (argsL := []) rfl (lenOf pd_4 rfl) rfl at_131 (pc' := 134) rfl (by decide) (W := 0) (Nat.le_of_eq rfl) (by decide) (by decide) (by decide) (fun T156 h156 Lc156 v156r X156 eH156 hQ156 => ?_)
          obtain ⟨rfl, Nq156, Kq156, gq156_0, gq156_1, gq156_2, gq156_3, gq156_4, gq156_5, gq156_6, gq156_7, gq156_8, gq156_9, gq156_10, gq156_11⟩ := hQ156
          have N156 := Fr.app N151 Nq156
          replace E_b1 := E_b1.keep Kq156
          replace V_b1 := V_b1.keep Kq156 (ninS ne_b1_b4_11 (ninS ne_b1_b10 (ninS ne_b1_b2_11 nin0)))
          replace E_b10 := E_b10.keep Kq156
          replace E_b2_11 := E_b2_11.keep Kq156
          replace E_b4_11 := E_b4_11.keep Kq156
          replace E_b6_11 := E_b6_11.keep Kq156
          replace V_b6_11 := V_b6_11.keep Kq156 (ninS (Ne.symm ne_b4_11_b6_11) (ninS (Ne.symm ne_b10_b6_11) (ninS (Ne.symm ne_b2_11_b6_11) nin0)))
          have hl157 : ((L153.set n154.toNatClampNeg (-1 : Int32)).set n155.toNatClampNeg (0 : Int32)).length = 4 := by (repeat' split) <;> (simp only [List.length_set]; first | assumption | rfl)
          obtain ⟨L158, q_L158⟩ : ∃ z, ((L153.set n154.toNatClampNeg (-1 : Int32)).set n155.toNatClampNeg (0 : Int32)) = z := ⟨_, rfl⟩
          rw [q_L158] at gq156_0 hl157
          have V_b4_11 := gq156_0
          have E_b10 := gq156_1
          have F_b10_heap := gq156_2
          have F_b10_position := gq156_3
          have F_b10_key := gq156_4
          have F_b10_size := gq156_5
          have V_b2_11 := gq156_6
          have hp_156 : Hp1 n155 L158 L140 := by rw [← q_L158]; exact gq156_7
          have ab_156 : ∀ z : Int32, (0 ≤ z.toInt ∧ z.toInt < 4) → pv L153 z = -1 → pv L158 z = -1 := by rw [← q_L158]; exact gq156_8
          have go_156 : pv L158 n154 = -1 := by rw [← q_L158]; exact gq156_9
          have rg_156 : 0 ≤ n154.toInt ∧ n154.toInt < 4 := gq156_10
          have mn_156 : kv L140 n154 ≤ kv L140 n155 := gq156_11
          replace Z0 := Nat.le_trans Z0 Kq156.1
          refine own_istore X156 hx hby (L' := #[.val (.int p0), .val (.int p1), .val (.int p2), .val (.int p3), .val (.int p4), .val (.int p5), .val (.ref b1), .val (.ref b10), .val (.int n28), .val (.double v135), .second, .val (.int n141), .val (.int n148), .val (.int n154), .unset, .unset, .unset]) rfl at_134 (pc' := 136) rfl ?_
          have rg_n154 := rg_156
          refine own_aload X156 hx hby rfl rfl at_136 (pc' := 138) rfl ?_
          refine own_virtual X156 hx hby hZ (y := (⟨"com/example/cross_town/crosstown/solve/NodeHeap", "poll", "()I"⟩ : MethodName)) (y' := (⟨"com/example/cross_town/crosstown/solve/NodeHeap", "poll", "()I"⟩ : MethodName)) (C := "com/example/cross_town/crosstown/solve/NodeHeap") (rest := []) hown (hw _ (List.mem_of_getElem? (i := 37) rfl)) (hw _ (List.mem_of_getElem? (i := 38) rfl)) (notFace_of_selects (args := #[]) (mvT hZ (hw _ (List.mem_of_getElem? (i := 40) rfl)))) (hw _ (List.mem_of_getElem? (i := 40) rfl)) (hw _ (List.mem_of_getElem? (i := 39) rfl)) (hw _ (List.mem_of_getElem? (i := 41) rfl)) (hw _ (List.mem_of_getElem? (i := 3) rfl)) (by decide) (rm71 l Z a0 hw [] b10 b2_11 b4_11 b6_11 n155 n155 n150 n36 L158 L140 h156 n0 Z0 E_b10 F_b10_heap F_b10_position F_b10_key V_b2_11 V_b4_11 (by first | assumption | rfl | (simp only [List.length_set]; first | assumption | rfl)) V_b6_11 (by first | assumption | rfl | (simp only [List.length_set]; first | assumption | rfl)) F_b10_size nnk_138 hp_156 g_b4_11 ne_b10_b4_11 ne_b2_11_b4_11 (Ne.symm ne_b4_11_b6_11) g_b10 (Ne.symm ne_b10_b2_11) (Ne.symm ne_b10_b6_11)) eH156 (by rw [hml]; rfl) (a := b10) E_b10 (argsL := []) rfl (lenOf pd_4 rfl) rfl at_138 (pc' := 141) rfl (by decide) (W := 0) (Nat.le_of_eq rfl) (by decide) (by decide) (by decide) (fun T159 h159 Lc159 v159r X159 eH159 hQ159 => ?_)
          obtain ⟨rfl, Nq159, Kq159, gq159_0, gq159_1, gq159_2, gq159_3, gq159_4, gq159_5, gq159_6, gq159_7, gq159_8⟩ := hQ159
          have N159 := Fr.app N156 Nq159
          replace E_b1 := E_b1.keep Kq159
          replace V_b1 := V_b1.keep Kq159 (ninS ne_b1_b4_11 (ninS ne_b1_b10 nin0))
          replace E_b10 := E_b10.keep Kq159
          replace E_b2_11 := E_b2_11.keep Kq159
          replace V_b2_11 := V_b2_11.keep Kq159 (ninS ne_b2_11_b4_11 (ninS (Ne.symm ne_b10_b2_11) nin0))
          replace E_b4_11 := E_b4_11.keep Kq159
          replace E_b6_11 := E_b6_11.keep Kq159
          replace V_b6_11 := V_b6_11.keep Kq159 (ninS (Ne.symm ne_b4_11_b6_11) (ninS (Ne.symm ne_b10_b6_11) nin0))
          have hl160 : (L158.set n155.toNatClampNeg (-1 : Int32)).length = 4 := by (repeat' split) <;> (simp only [List.length_set]; first | assumption | rfl)
          obtain ⟨L161, q_L161⟩ : ∃ z, (L158.set n155.toNatClampNeg (-1 : Int32)) = z := ⟨_, rfl⟩
          rw [q_L161] at gq159_0 hl160
          have V_b4_11 := gq159_0
          have E_b10 := gq159_1
          have F_b10_heap := gq159_2
          have F_b10_position := gq159_3
          have F_b10_key := gq159_4
          have F_b10_size := gq159_5
          have ab_159 : ∀ z : Int32, (0 ≤ z.toInt ∧ z.toInt < 4) → pv L158 z = -1 → pv L161 z = -1 := by rw [← q_L161]; exact gq159_6
          have go_159 : pv L161 n155 = -1 := by rw [← q_L161]; exact gq159_7
          have rg_159 : 0 ≤ n155.toInt ∧ n155.toInt < 4 := gq159_8
          replace Z0 := Nat.le_trans Z0 Kq159.1
          refine own_istore X159 hx hby (L' := #[.val (.int p0), .val (.int p1), .val (.int p2), .val (.int p3), .val (.int p4), .val (.int p5), .val (.ref b1), .val (.ref b10), .val (.int n28), .val (.double v135), .second, .val (.int n141), .val (.int n148), .val (.int n154), .val (.int n155), .unset, .unset]) rfl at_141 (pc' := 143) rfl ?_
          have rg_n155 := rg_159
          have a2 := ab_151 n141 rg_n141 go_145
          have a3 := ab_156 n141 rg_n141 a2
          have b3 := ab_156 n148 rg_n148 go_151
          have n1 := own_pne go_145 (hp_145).2.2.2.1 (by decide)
          have n2 := own_pne a2 (hp_151).2.2.1 (by decide)
          have n3 := own_pne a3 (hp_156).2 (by decide)
          have n4 := own_pne go_151 (hp_151).2.2.1 (by decide)
          have n5 := own_pne b3 (hp_156).2 (by decide)
          have n6 := own_pne go_156 (hp_156).2 (by decide)
          have k1 := (mn_145).1
          have k2 := (mn_151).1
          have k3 := mn_156
          refine own_aload X159 hx hby rfl rfl at_143 (pc' := 145) rfl ?_
          refine own_virtual X159 hx hby hZ (y := (⟨"com/example/cross_town/crosstown/solve/NodeHeap", "isEmpty", "()Z"⟩ : MethodName)) (y' := (⟨"com/example/cross_town/crosstown/solve/NodeHeap", "isEmpty", "()Z"⟩ : MethodName)) (C := "com/example/cross_town/crosstown/solve/NodeHeap") (rest := []) hown (hw _ (List.mem_of_getElem? (i := 46) rfl)) (hw _ (List.mem_of_getElem? (i := 47) rfl)) (notFace_of_selects (args := #[]) (mvT hZ (hw _ (List.mem_of_getElem? (i := 49) rfl)))) (hw _ (List.mem_of_getElem? (i := 49) rfl)) (hw _ (List.mem_of_getElem? (i := 48) rfl)) (hw _ (List.mem_of_getElem? (i := 50) rfl)) (hw _ (List.mem_of_getElem? (i := 3) rfl)) (by decide) (rm9 l Z a0 hw [] b10 (0 : Int32) h159 n0 Z0 F_b10_size) eH159 (by rw [hml]; rfl) (a := b10) E_b10 (argsL := []) rfl (lenOf pd_5 rfl) rfl at_145 (pc' := 148) rfl (by decide) (W := 0) (Nat.le_of_eq rfl) (by decide) (by decide) (by decide) (fun T162 h162 Lc162 v162r X162 eH162 hQ162 => ?_)
          obtain ⟨rfl, Nq162, rfl⟩ := hQ162
          have N162 := Fr.app N159 Nq162
          dsimp only [Option.toList, List.cons_append, List.nil_append]
          generalize q_r163 : (if (0 : Int32) = 0 then (1 : Int32) else (0 : Int32)) = r163
          refine own_istore X162 hx hby (L' := #[.val (.int p0), .val (.int p1), .val (.int p2), .val (.int p3), .val (.int p4), .val (.int p5), .val (.ref b1), .val (.ref b10), .val (.int n28), .val (.double v135), .second, .val (.int n141), .val (.int n148), .val (.int n154), .val (.int n155), .val (.int r163), .unset]) rfl at_148 (pc' := 150) rfl ?_
          refine own_iload X162 hx hby rfl at_150 (pc' := 152) rfl ?_
          refine own_static X162 hx hby hZ (y := (⟨"com/example/cross_town/crosstown/solve/NodeHeapInsertOrLowerPinLaw", "inRange", "(I)Z"⟩ : MethodName)) (rest := []) hown (hw _ (List.mem_of_getElem? (i := 51) rfl)) (hw _ (List.mem_of_getElem? (i := 52) rfl)) (hw _ (List.mem_of_getElem? (i := 54) rfl)) (hw _ (List.mem_of_getElem? (i := 53) rfl)) (by decide) (rm10 l Z a0 hw [] n141 h159 n0 Z0) eH162 (by rw [hml]; rfl) (argsL := [(.int n141)]) rfl (lenOf pd_6 rfl) rfl at_152 (pc' := 155) rfl (by decide) (W := 0) (Nat.le_of_eq rfl) (by decide) (by decide) (by decide) (fun T164 h164 Lc164 v164r X164 eH164 hQ164 => ?_)
          obtain ⟨rfl, Nq164, rfl⟩ := hQ164
          have N164 := Fr.app N162 Nq164
          dsimp only [Option.toList, List.cons_append, List.nil_append]
          generalize q_r165 : (if n141 < 0 then (0 : Int32) else (if n141 < (4 : Int32) then (1 : Int32) else (0 : Int32))) = r165
          have hk166 : ¬ (r165 = 0) := own_okr rg_n141 q_r165
          refine own_ifF X164 hx hby at_155 (own_i0_eq_n hk166) (pc' := 158) rfl ?_
          refine own_iload X164 hx hby rfl at_158 (pc' := 160) rfl ?_
          refine own_static X164 hx hby hZ (y := (⟨"com/example/cross_town/crosstown/solve/NodeHeapInsertOrLowerPinLaw", "inRange", "(I)Z"⟩ : MethodName)) (rest := []) hown (hw _ (List.mem_of_getElem? (i := 51) rfl)) (hw _ (List.mem_of_getElem? (i := 52) rfl)) (hw _ (List.mem_of_getElem? (i := 54) rfl)) (hw _ (List.mem_of_getElem? (i := 53) rfl)) (by decide) (rm10 l Z a0 hw [] n148 h159 n0 Z0) eH164 (by rw [hml]; rfl) (argsL := [(.int n148)]) rfl (lenOf pd_6 rfl) rfl at_160 (pc' := 163) rfl (by decide) (W := 0) (Nat.le_of_eq rfl) (by decide) (by decide) (by decide) (fun T167 h167 Lc167 v167r X167 eH167 hQ167 => ?_)
          obtain ⟨rfl, Nq167, rfl⟩ := hQ167
          have N167 := Fr.app N164 Nq167
          dsimp only [Option.toList, List.cons_append, List.nil_append]
          generalize q_r168 : (if n148 < 0 then (0 : Int32) else (if n148 < (4 : Int32) then (1 : Int32) else (0 : Int32))) = r168
          have hk169 : ¬ (r168 = 0) := own_okr rg_n148 q_r168
          refine own_ifF X167 hx hby at_163 (own_i0_eq_n hk169) (pc' := 166) rfl ?_
          refine own_iload X167 hx hby rfl at_166 (pc' := 168) rfl ?_
          refine own_static X167 hx hby hZ (y := (⟨"com/example/cross_town/crosstown/solve/NodeHeapInsertOrLowerPinLaw", "inRange", "(I)Z"⟩ : MethodName)) (rest := []) hown (hw _ (List.mem_of_getElem? (i := 51) rfl)) (hw _ (List.mem_of_getElem? (i := 52) rfl)) (hw _ (List.mem_of_getElem? (i := 54) rfl)) (hw _ (List.mem_of_getElem? (i := 53) rfl)) (by decide) (rm10 l Z a0 hw [] n154 h159 n0 Z0) eH167 (by rw [hml]; rfl) (argsL := [(.int n154)]) rfl (lenOf pd_6 rfl) rfl at_168 (pc' := 171) rfl (by decide) (W := 0) (Nat.le_of_eq rfl) (by decide) (by decide) (by decide) (fun T170 h170 Lc170 v170r X170 eH170 hQ170 => ?_)
          obtain ⟨rfl, Nq170, rfl⟩ := hQ170
          have N170 := Fr.app N167 Nq170
          dsimp only [Option.toList, List.cons_append, List.nil_append]
          generalize q_r171 : (if n154 < 0 then (0 : Int32) else (if n154 < (4 : Int32) then (1 : Int32) else (0 : Int32))) = r171
          have hk172 : ¬ (r171 = 0) := own_okr rg_n154 q_r171
          refine own_ifF X170 hx hby at_171 (own_i0_eq_n hk172) (pc' := 174) rfl ?_
          refine own_iload X170 hx hby rfl at_174 (pc' := 176) rfl ?_
          refine own_static X170 hx hby hZ (y := (⟨"com/example/cross_town/crosstown/solve/NodeHeapInsertOrLowerPinLaw", "inRange", "(I)Z"⟩ : MethodName)) (rest := []) hown (hw _ (List.mem_of_getElem? (i := 51) rfl)) (hw _ (List.mem_of_getElem? (i := 52) rfl)) (hw _ (List.mem_of_getElem? (i := 54) rfl)) (hw _ (List.mem_of_getElem? (i := 53) rfl)) (by decide) (rm10 l Z a0 hw [] n155 h159 n0 Z0) eH170 (by rw [hml]; rfl) (argsL := [(.int n155)]) rfl (lenOf pd_6 rfl) rfl at_176 (pc' := 179) rfl (by decide) (W := 0) (Nat.le_of_eq rfl) (by decide) (by decide) (by decide) (fun T173 h173 Lc173 v173r X173 eH173 hQ173 => ?_)
          obtain ⟨rfl, Nq173, rfl⟩ := hQ173
          have N173 := Fr.app N170 Nq173
          dsimp only [Option.toList, List.cons_append, List.nil_append]
          generalize q_r174 : (if n155 < 0 then (0 : Int32) else (if n155 < (4 : Int32) then (1 : Int32) else (0 : Int32))) = r174
          have hk175 : ¬ (r174 = 0) := own_okr rg_n155 q_r174
          refine own_ifT X173 hx hby at_179 (own_i0_ne_n hk175) (by decide) (pc' := 184) (by decide) ?_
          refine own_iconst X173 hx hby (v := (1 : Int32)) (by decide) at_184 (pc' := 185) rfl ?_
          refine own_iload X173 hx hby rfl at_185 (pc' := 187) rfl ?_
          refine own_ishl X173 hx hby rfl at_187 (pc' := 188) rfl ?_
          refine own_iconst X173 hx hby (v := (1 : Int32)) (by decide) at_188 (pc' := 189) rfl ?_
          refine own_iload X173 hx hby rfl at_189 (pc' := 191) rfl ?_
          refine own_ishl X173 hx hby rfl at_191 (pc' := 192) rfl ?_
          refine own_ior X173 hx hby rfl at_192 (pc' := 193) rfl ?_
          refine own_iconst X173 hx hby (v := (1 : Int32)) (by decide) at_193 (pc' := 194) rfl ?_
          refine own_iload X173 hx hby rfl at_194 (pc' := 196) rfl ?_
          refine own_ishl X173 hx hby rfl at_196 (pc' := 197) rfl ?_
          refine own_ior X173 hx hby rfl at_197 (pc' := 198) rfl ?_
          refine own_iconst X173 hx hby (v := (1 : Int32)) (by decide) at_198 (pc' := 199) rfl ?_
          as_aux_lemma =>
            refine own_iload X173 hx hby rfl at_199 (pc' := 201) rfl ?_
            refine own_ishl X173 hx hby rfl at_201 (pc' := 202) rfl ?_
            refine own_ior X173 hx hby rfl at_202 (pc' := 203) rfl ?_
            generalize q_n176 : (((((1 : Int32) <<< (n141 &&& 31)) ||| ((1 : Int32) <<< (n148 &&& 31))) ||| ((1 : Int32) <<< (n154 &&& 31))) ||| ((1 : Int32) <<< (n155 &&& 31))) = n176
            refine own_istore X173 hx hby (L' := #[.val (.int p0), .val (.int p1), .val (.int p2), .val (.int p3), .val (.int p4), .val (.int p5), .val (.ref b1), .val (.ref b10), .val (.int n28), .val (.double v135), .second, .val (.int n141), .val (.int n148), .val (.int n154), .val (.int n155), .val (.int r163), .val (.int n176)]) rfl at_203 (pc' := 205) rfl ?_
            refine own_iload X173 hx hby rfl at_205 (pc' := 207) rfl ?_
            have hk177 : ¬ (r163 = 0) := by rw [← q_r163]; decide
            refine own_ifF X173 hx hby at_207 (own_i0_eq_n hk177) (pc' := 210) rfl ?_
            refine own_iload X173 hx hby rfl at_210 (pc' := 212) rfl ?_
            refine own_bipush X173 hx hby (v := (15 : Int32)) (by decide) at_212 (pc' := 214) rfl ?_
            have hk178 : n176 = (15 : Int32) := q_n176.symm.trans (own_mask15 rg_n141 rg_n148 rg_n154 rg_n155 n1 n2 n3 n4 n5 n6)
            refine own_icF X173 hx hby at_214 (own_ic_ne_p hk178) (pc' := 217) rfl ?_
            refine own_aload X173 hx hby rfl rfl at_217 (pc' := 219) rfl ?_
            refine own_iload X173 hx hby rfl at_219 (pc' := 221) rfl ?_
            refine own_daload X173 hx hby hZ eH173 V_b1 (own_rg0 rg_n141) (v := (.double ((DD.set n28.toNatClampNeg v135).getD n141.toNatClampNeg 0))) (own_lget (own_rgl rg_n141 hl137)) at_221 (pc' := 222) rfl ?_
            refine own_aload X173 hx hby rfl rfl at_222 (pc' := 224) rfl ?_
            refine own_iload X173 hx hby rfl at_224 (pc' := 226) rfl ?_
            refine own_daload X173 hx hby hZ eH173 V_b1 (own_rg0 rg_n148) (v := (.double ((DD.set n28.toNatClampNeg v135).getD n148.toNatClampNeg 0))) (own_lget (own_rgl rg_n148 hl137)) at_226 (pc' := 227) rfl ?_
            refine own_dcmp X173 hx hby rfl at_227 (pc' := 228) rfl ?_
            have hk179 : dle ((DD.set n28.toNatClampNeg v135).getD n141.toNatClampNeg 0) ((DD.set n28.toNatClampNeg v135).getD n148.toNatClampNeg 0) := own_dled R5 nD5 rg_n141 rg_n148 k1
            refine own_ifF X173 hx hby at_228 (own_dg_gt_p hk179) (pc' := 231) rfl ?_
            refine own_aload X173 hx hby rfl rfl at_231 (pc' := 233) rfl ?_
            refine own_iload X173 hx hby rfl at_233 (pc' := 235) rfl ?_
            refine own_daload X173 hx hby hZ eH173 V_b1 (own_rg0 rg_n148) (v := (.double ((DD.set n28.toNatClampNeg v135).getD n148.toNatClampNeg 0))) (own_lget (own_rgl rg_n148 hl137)) at_235 (pc' := 236) rfl ?_
            refine own_aload X173 hx hby rfl rfl at_236 (pc' := 238) rfl ?_
            refine own_iload X173 hx hby rfl at_238 (pc' := 240) rfl ?_
            refine own_daload X173 hx hby hZ eH173 V_b1 (own_rg0 rg_n154) (v := (.double ((DD.set n28.toNatClampNeg v135).getD n154.toNatClampNeg 0))) (own_lget (own_rgl rg_n154 hl137)) at_240 (pc' := 241) rfl ?_
            refine own_dcmp X173 hx hby rfl at_241 (pc' := 242) rfl ?_
            have hk180 : dle ((DD.set n28.toNatClampNeg v135).getD n148.toNatClampNeg 0) ((DD.set n28.toNatClampNeg v135).getD n154.toNatClampNeg 0) := own_dled R5 nD5 rg_n148 rg_n154 k2
            refine own_ifF X173 hx hby at_242 (own_dg_gt_p hk180) (pc' := 245) rfl ?_
            refine own_aload X173 hx hby rfl rfl at_245 (pc' := 247) rfl ?_
            refine own_iload X173 hx hby rfl at_247 (pc' := 249) rfl ?_
            refine own_daload X173 hx hby hZ eH173 V_b1 (own_rg0 rg_n154) (v := (.double ((DD.set n28.toNatClampNeg v135).getD n154.toNatClampNeg 0))) (own_lget (own_rgl rg_n154 hl137)) at_249 (pc' := 250) rfl ?_
            refine own_aload X173 hx hby rfl rfl at_250 (pc' := 252) rfl ?_
            refine own_iload X173 hx hby rfl at_252 (pc' := 254) rfl ?_
            refine own_daload X173 hx hby hZ eH173 V_b1 (own_rg0 rg_n155) (v := (.double ((DD.set n28.toNatClampNeg v135).getD n155.toNatClampNeg 0))) (own_lget (own_rgl rg_n155 hl137)) at_254 (pc' := 255) rfl ?_
            refine own_dcmp X173 hx hby rfl at_255 (pc' := 256) rfl ?_
            have hk181 : dle ((DD.set n28.toNatClampNeg v135).getD n154.toNatClampNeg 0) ((DD.set n28.toNatClampNeg v135).getD n155.toNatClampNeg 0) := own_dled R5 nD5 rg_n154 rg_n155 k3
            refine own_ifF X173 hx hby at_256 (own_dg_gt_p hk181) (pc' := 259) rfl ?_
            refine own_iconst X173 hx hby (v := (1 : Int32)) (by decide) at_259 (pc' := 260) rfl ?_
            refine own_goto X173 hx hby at_260 (by decide) (pc' := 264) (by decide) ?_
            exact own_retZ X173 hx hby Bd.notSynchronized Bd.returns (Or.inr rfl) at_264 (by decide) (by decide) eH173 ⟨rfl, N173⟩
    · have rg_n36 := own_m3 q_n39
      as_aux_lemma =>
        refine own_aload X31 hx hby rfl rfl at_85 (pc' := 87) rfl ?_
        refine own_iload X31 hx hby rfl at_87 (pc' := 89) rfl ?_
        refine own_daload X31 hx hby hZ eH31 V_b1 (own_rg0 rg_n36) (v := (.double (DD.getD n36.toNatClampNeg 0))) (own_lget (own_rgl rg_n36 hlD)) at_89 (pc' := 90) rfl ?_
        refine own_iload X31 hx hby rfl at_90 (pc' := 92) rfl ?_
        refine own_ldcI X31 hx hby hZ hown (hw _ (List.mem_of_getElem? (i := 36) rfl)) at_92 (pc' := 94) rfl ?_
        refine own_iand X31 hx hby rfl at_94 (pc' := 95) rfl ?_
        obtain ⟨v182, q_v182⟩ : ∃ z : UInt64, (FP.i2d (p5 &&& (2147483647 : Int32))) = z := ⟨_, rfl⟩
        have D_v182 : Dy v182 (p5 &&& (2147483647 : Int32)).toInt 0 := q_v182 ▸ dy_i2d (p5 &&& (2147483647 : Int32))
        refine own_i2d X31 hx hby q_v182 at_95 (pc' := 96) rfl ?_
        obtain ⟨v183, q_v183⟩ : ∃ z : UInt64, (FP.dsub (DD.getD n36.toNatClampNeg 0) v182) = z := ⟨_, rfl⟩
        obtain ⟨e8, De8⟩ : ∃ e : Int32, Dy (DD.getD n36.toNatClampNeg 0) e.toInt 0 := by rw [← q_DD]; exact own_dg D_v2 D_v4 D_v6 D_v8 rg_n36
        have D_v183 := De8.sub D_v182 (by have := rng32 e8; have := own_m31 p5; omega) (by omega)
        rw [q_v183] at D_v183
        have nn_v183 := D_v183.nn
        have low : zv v183 ≤ zv (DD.getD n36.toNatClampNeg 0) := (Dy.zle D_v183 De8).1.mpr (by have := own_m31 p5; omega)
        refine own_dsub X31 hx hby (by rw [q_v183]; exact nn_v183) q_v183 at_96 (pc' := 97) rfl ?_
        refine own_dstore X31 hx hby (L' := #[.val (.int p0), .val (.int p1), .val (.int p2), .val (.int p3), .val (.int p4), .val (.int p5), .val (.ref b1), .val (.ref b10), .val (.int n36), .val (.double v183), .second, .unset, .unset, .unset, .unset, .unset, .unset]) rfl at_97 (pc' := 99) rfl ?_
        refine own_aload X31 hx hby rfl rfl at_99 (pc' := 101) rfl ?_
        refine own_iload X31 hx hby rfl at_101 (pc' := 103) rfl ?_
        refine own_dload X31 hx hby rfl at_103 (pc' := 105) rfl ?_
        refine own_dastore X31 hx hby hZ eH31 V_b1 (own_rg0 rg_n36) (n := n36.toNatClampNeg) rfl (by rw [List.length_map]; exact own_rgl rg_n36 hlD) at_105 (pc' := 106) rfl (fun T184 h184 X184 eH184 W184 => ?_)
        replace E_b1 := E_b1.wr W184
        replace E_b10 := E_b10.wr W184
        replace F_b10_heap := F_b10_heap.other W184 (Or.inl (Ne.symm ne_b1_b10))
        replace F_b10_position := F_b10_position.other W184 (Or.inl (Ne.symm ne_b1_b10))
        replace F_b10_key := F_b10_key.other W184 (Or.inl (Ne.symm ne_b1_b10))
        replace F_b10_size := F_b10_size.other W184 (Or.inl (Ne.symm ne_b1_b10))
        replace E_b2_11 := E_b2_11.wr W184
        replace V_b2_11 := V_b2_11.other W184 (Ne.symm ne_b1_b2_11)
        replace E_b4_11 := E_b4_11.wr W184
        replace V_b4_11 := V_b4_11.other W184 (Ne.symm ne_b1_b4_11)
        replace E_b6_11 := E_b6_11.wr W184
        replace V_b6_11 := V_b6_11.other W184 (Ne.symm ne_b1_b6_11)
        have N184 := Fr.snoc X184 N31 g_b1
        replace Z0 := Nat.le_trans Z0 (Nat.le_of_eq W184.size.symm)
        have hl185 : (DD.set n36.toNatClampNeg v183).length = 4 := by rw [List.length_set]; exact hlD
        replace V_b1 : Ary tr Z h184 b1 .double ((DD.set n36.toNatClampNeg v183).map Value.double) := by rw [List.map_set]; exact V_b1.set W184
        refine own_aload X184 hx hby rfl rfl at_106 (pc' := 108) rfl ?_
        refine own_iload X184 hx hby rfl at_108 (pc' := 110) rfl ?_
        refine own_dload X184 hx hby rfl at_110 (pc' := 112) rfl ?_
        refine own_virtual X184 hx hby hZ (y := (⟨"com/example/cross_town/crosstown/solve/NodeHeap", "insertOrLower", "(ID)V"⟩ : MethodName)) (y' := (⟨"com/example/cross_town/crosstown/solve/NodeHeap", "insertOrLower", "(ID)V"⟩ : MethodName)) (C := "com/example/cross_town/crosstown/solve/NodeHeap") (rest := []) hown (hw _ (List.mem_of_getElem? (i := 21) rfl)) (hw _ (List.mem_of_getElem? (i := 22) rfl)) (notFace_of_selects (args := #[]) (mvT hZ (hw _ (List.mem_of_getElem? (i := 24) rfl)))) (hw _ (List.mem_of_getElem? (i := 24) rfl)) (hw _ (List.mem_of_getElem? (i := 23) rfl)) (hw _ (List.mem_of_getElem? (i := 25) rfl)) (hw _ (List.mem_of_getElem? (i := 3) rfl)) (by decide) (rm4l43 l Z a0 hw [] b10 n36 v183 b2_11 b4_11 b6_11 n34 n35 n28 L38 L33 h184 n0 Z0 E_b10 F_b10_heap F_b10_position F_b10_key F_b10_size V_b2_11 V_b4_11 (by first | assumption | rfl | (simp only [List.length_set]; first | assumption | rfl)) V_b6_11 (by first | assumption | rfl | (simp only [List.length_set]; first | assumption | rfl)) nnk_31 D_v183.1.ne_nan hp_31 (by rw [R4 n36 rg_n36]; exact low) g_b6_11 ne_b10_b6_11 ne_b2_11_b6_11 ne_b4_11_b6_11 g_b2_11 ne_b10_b2_11 (Ne.symm ne_b2_11_b4_11) g_b4_11 ne_b10_b4_11) eH184 (by rw [hml]; rfl) (a := b10) E_b10 (argsL := [(.int n36), (.double v183)]) rfl (lenOf pd_3 rfl) rfl at_112 (pc' := 115) rfl (by decide) (W := 0) (Nat.le_of_eq rfl) (by decide) (by decide) (by decide) (fun T186 h186 Lc186 v186r X186 eH186 hQ186 => ?_)
        obtain ⟨rfl, Nq186, Kq186, gq186_0, gq186_1, gq186_2, gq186_3, gq186_4⟩ := hQ186
        have N186 := Fr.app N184 Nq186
        replace E_b1 := E_b1.keep Kq186
        replace V_b1 := V_b1.keep Kq186 (ninS ne_b1_b6_11 (ninS ne_b1_b2_11 (ninS ne_b1_b4_11 nin0)))
        replace E_b10 := E_b10.keep Kq186
        replace F_b10_heap := F_b10_heap.keep Kq186 (ninS ne_b10_b6_11 (ninS ne_b10_b2_11 (ninS ne_b10_b4_11 nin0)))
        replace F_b10_position := F_b10_position.keep Kq186 (ninS ne_b10_b6_11 (ninS ne_b10_b2_11 (ninS ne_b10_b4_11 nin0)))
        replace F_b10_key := F_b10_key.keep Kq186 (ninS ne_b10_b6_11 (ninS ne_b10_b2_11 (ninS ne_b10_b4_11 nin0)))
        replace F_b10_size := F_b10_size.keep Kq186 (ninS ne_b10_b6_11 (ninS ne_b10_b2_11 (ninS ne_b10_b4_11 nin0)))
        replace E_b2_11 := E_b2_11.keep Kq186
        replace E_b4_11 := E_b4_11.keep Kq186
        replace E_b6_11 := E_b6_11.keep Kq186
        have hl187 : (L33.set n36.toNatClampNeg v183).length = 4 := by (repeat' split) <;> (simp only [List.length_set]; first | assumption | rfl)
        obtain ⟨L188, q_L188⟩ : ∃ z, (L33.set n36.toNatClampNeg v183) = z := ⟨_, rfl⟩
        rw [q_L188] at gq186_0 hl187
        have V_b6_11 := gq186_0
        obtain ⟨n189, q_n189⟩ : ∃ z : Int32, (if dle ((L33.set n36.toNatClampNeg v183).getD n35.toNatClampNeg 0) ((L33.set n36.toNatClampNeg v183).getD n36.toNatClampNeg 0) then n34 else (if dle ((L33.set n36.toNatClampNeg v183).getD n34.toNatClampNeg 0) ((L33.set n36.toNatClampNeg v183).getD n36.toNatClampNeg 0) then n34 else n36)) = z := ⟨_, rfl⟩
        obtain ⟨n190, q_n190⟩ : ∃ z : Int32, (if dle ((L33.set n36.toNatClampNeg v183).getD n35.toNatClampNeg 0) ((L33.set n36.toNatClampNeg v183).getD n36.toNatClampNeg 0) then n35 else (if dle ((L33.set n36.toNatClampNeg v183).getD n34.toNatClampNeg 0) ((L33.set n36.toNatClampNeg v183).getD n36.toNatClampNeg 0) then n36 else n34)) = z := ⟨_, rfl⟩
        obtain ⟨n191, q_n191⟩ : ∃ z : Int32, (if dle ((L33.set n36.toNatClampNeg v183).getD n35.toNatClampNeg 0) ((L33.set n36.toNatClampNeg v183).getD n36.toNatClampNeg 0) then n36 else (if dle ((L33.set n36.toNatClampNeg v183).getD n34.toNatClampNeg 0) ((L33.set n36.toNatClampNeg v183).getD n36.toNatClampNeg 0) then n35 else n35)) = z := ⟨_, rfl⟩
        have V_b2_11 : Ary tr Z h186 b2_11 .int [(.int n189), (.int n190), (.int n28), (.int n191)] := by rw [← q_n189, ← q_n190, ← q_n191]; exact gq186_1
        have hl192 : (if dle ((L33.set n36.toNatClampNeg v183).getD n35.toNatClampNeg 0) ((L33.set n36.toNatClampNeg v183).getD n36.toNatClampNeg 0) then (L38.set n36.toNatClampNeg (3 : Int32)) else (if dle ((L33.set n36.toNatClampNeg v183).getD n34.toNatClampNeg 0) ((L33.set n36.toNatClampNeg v183).getD n36.toNatClampNeg 0) then ((L38.set n35.toNatClampNeg (3 : Int32)).set n36.toNatClampNeg (1 : Int32)) else (((L38.set n35.toNatClampNeg (3 : Int32)).set n34.toNatClampNeg (1 : Int32)).set n36.toNatClampNeg (0 : Int32)))).length = 4 := by (repeat' split) <;> (simp only [List.length_set]; first | assumption | rfl)
        obtain ⟨L193, q_L193⟩ : ∃ z, (if dle ((L33.set n36.toNatClampNeg v183).getD n35.toNatClampNeg 0) ((L33.set n36.toNatClampNeg v183).getD n36.toNatClampNeg 0) then (L38.set n36.toNatClampNeg (3 : Int32)) else (if dle ((L33.set n36.toNatClampNeg v183).getD n34.toNatClampNeg 0) ((L33.set n36.toNatClampNeg v183).getD n36.toNatClampNeg 0) then ((L38.set n35.toNatClampNeg (3 : Int32)).set n36.toNatClampNeg (1 : Int32)) else (((L38.set n35.toNatClampNeg (3 : Int32)).set n34.toNatClampNeg (1 : Int32)).set n36.toNatClampNeg (0 : Int32)))) = z := ⟨_, rfl⟩
        rw [q_L193] at gq186_2 hl192
        have V_b4_11 := gq186_2
        have hp_186 : Hp4 n189 n190 n28 n191 L193 L188 := by rw [← q_L188, ← q_n191, ← q_n190, ← q_n189, ← q_L193]; exact gq186_3
        have nnk_186 : NNk L188 := by rw [← q_L188]; exact gq186_4
        replace Z0 := Nat.le_trans Z0 Kq186.1
        have R5 : Rel L188 (DD.set n36.toNatClampNeg v183) := by rw [← q_L188]; exact own_relset R4 rg_n36 hl32 hlD
        have nD5 : NNk (DD.set n36.toNatClampNeg v183) := own_nnk nD4 D_v183.1.ne_nan (own_rgl rg_n36 hlD)
        refine own_aload X186 hx hby rfl rfl at_115 (pc' := 117) rfl ?_
        refine own_virtual X186 hx hby hZ (y := (⟨"com/example/cross_town/crosstown/solve/NodeHeap", "poll", "()I"⟩ : MethodName)) (y' := (⟨"com/example/cross_town/crosstown/solve/NodeHeap", "poll", "()I"⟩ : MethodName)) (C := "com/example/cross_town/crosstown/solve/NodeHeap") (rest := []) hown (hw _ (List.mem_of_getElem? (i := 37) rfl)) (hw _ (List.mem_of_getElem? (i := 38) rfl)) (notFace_of_selects (args := #[]) (mvT hZ (hw _ (List.mem_of_getElem? (i := 40) rfl)))) (hw _ (List.mem_of_getElem? (i := 40) rfl)) (hw _ (List.mem_of_getElem? (i := 39) rfl)) (hw _ (List.mem_of_getElem? (i := 41) rfl)) (hw _ (List.mem_of_getElem? (i := 3) rfl)) (by decide) (rm74 l Z a0 hw [] b10 b2_11 b4_11 b6_11 n189 n190 n28 n191 L193 L188 h186 n0 Z0 E_b10 F_b10_heap F_b10_position F_b10_key V_b2_11 V_b4_11 (by first | assumption | rfl | (simp only [List.length_set]; first | assumption | rfl)) V_b6_11 (by first | assumption | rfl | (simp only [List.length_set]; first | assumption | rfl)) F_b10_size nnk_186 hp_186 g_b4_11 ne_b10_b4_11 ne_b2_11_b4_11 (Ne.symm ne_b4_11_b6_11) g_b10 (Ne.symm ne_b10_b2_11) (Ne.symm ne_b10_b6_11) g_b2_11 (Ne.symm ne_b2_11_b6_11)) eH186 (by rw [hml]; rfl) (a := b10) E_b10 (argsL := []) rfl (lenOf pd_4 rfl) rfl at_117 (pc' := 120) rfl (by decide) (W := 0) (Nat.le_of_eq rfl) (by decide) (by decide) (by decide) (fun T194 h194 Lc194 v194r X194 eH194 hQ194 => ?_)
        obtain ⟨rfl, Nq194, Kq194, gq194_0, gq194_1, gq194_2, gq194_3, gq194_4, gq194_5, gq194_6, gq194_7, gq194_8, gq194_9, gq194_10, gq194_11⟩ := hQ194
        have N194 := Fr.app N186 Nq194
        replace E_b1 := E_b1.keep Kq194
        replace V_b1 := V_b1.keep Kq194 (ninS ne_b1_b4_11 (ninS ne_b1_b10 (ninS ne_b1_b2_11 nin0)))
        replace E_b10 := E_b10.keep Kq194
        replace E_b2_11 := E_b2_11.keep Kq194
        replace E_b4_11 := E_b4_11.keep Kq194
        replace E_b6_11 := E_b6_11.keep Kq194
        replace V_b6_11 := V_b6_11.keep Kq194 (ninS (Ne.symm ne_b4_11_b6_11) (ninS (Ne.symm ne_b10_b6_11) (ninS (Ne.symm ne_b2_11_b6_11) nin0)))
        have hl195 : (if dlt (L188.getD n28.toNatClampNeg 0) (L188.getD n190.toNatClampNeg 0) then (if dle (L188.getD n191.toNatClampNeg 0) (L188.getD n28.toNatClampNeg 0) then ((L193.set n189.toNatClampNeg (-1 : Int32)).set n191.toNatClampNeg (0 : Int32)) else (((L193.set n189.toNatClampNeg (-1 : Int32)).set n28.toNatClampNeg (0 : Int32)).set n191.toNatClampNeg (2 : Int32))) else (if dle (L188.getD n191.toNatClampNeg 0) (L188.getD n190.toNatClampNeg 0) then ((L193.set n189.toNatClampNeg (-1 : Int32)).set n191.toNatClampNeg (0 : Int32)) else (((L193.set n189.toNatClampNeg (-1 : Int32)).set n190.toNatClampNeg (0 : Int32)).set n191.toNatClampNeg (1 : Int32)))).length = 4 := by (repeat' split) <;> (simp only [List.length_set]; first | assumption | rfl)
        obtain ⟨L196, q_L196⟩ : ∃ z, (if dlt (L188.getD n28.toNatClampNeg 0) (L188.getD n190.toNatClampNeg 0) then (if dle (L188.getD n191.toNatClampNeg 0) (L188.getD n28.toNatClampNeg 0) then ((L193.set n189.toNatClampNeg (-1 : Int32)).set n191.toNatClampNeg (0 : Int32)) else (((L193.set n189.toNatClampNeg (-1 : Int32)).set n28.toNatClampNeg (0 : Int32)).set n191.toNatClampNeg (2 : Int32))) else (if dle (L188.getD n191.toNatClampNeg 0) (L188.getD n190.toNatClampNeg 0) then ((L193.set n189.toNatClampNeg (-1 : Int32)).set n191.toNatClampNeg (0 : Int32)) else (((L193.set n189.toNatClampNeg (-1 : Int32)).set n190.toNatClampNeg (0 : Int32)).set n191.toNatClampNeg (1 : Int32)))) = z := ⟨_, rfl⟩
        rw [q_L196] at gq194_0 hl195
        have V_b4_11 := gq194_0
        have E_b10 := gq194_1
        have F_b10_heap := gq194_2
        have F_b10_position := gq194_3
        have F_b10_key := gq194_4
        have F_b10_size := gq194_5
        obtain ⟨n197, q_n197⟩ : ∃ z : Int32, (if dlt (L188.getD n28.toNatClampNeg 0) (L188.getD n190.toNatClampNeg 0) then (if dle (L188.getD n191.toNatClampNeg 0) (L188.getD n28.toNatClampNeg 0) then n191 else n28) else (if dle (L188.getD n191.toNatClampNeg 0) (L188.getD n190.toNatClampNeg 0) then n191 else n190)) = z := ⟨_, rfl⟩
        obtain ⟨n198, q_n198⟩ : ∃ z : Int32, (if dlt (L188.getD n28.toNatClampNeg 0) (L188.getD n190.toNatClampNeg 0) then (if dle (L188.getD n191.toNatClampNeg 0) (L188.getD n28.toNatClampNeg 0) then n190 else n190) else (if dle (L188.getD n191.toNatClampNeg 0) (L188.getD n190.toNatClampNeg 0) then n190 else n191)) = z := ⟨_, rfl⟩
        obtain ⟨n199, q_n199⟩ : ∃ z : Int32, (if dlt (L188.getD n28.toNatClampNeg 0) (L188.getD n190.toNatClampNeg 0) then (if dle (L188.getD n191.toNatClampNeg 0) (L188.getD n28.toNatClampNeg 0) then n28 else n191) else (if dle (L188.getD n191.toNatClampNeg 0) (L188.getD n190.toNatClampNeg 0) then n28 else n28)) = z := ⟨_, rfl⟩
        have V_b2_11 : Ary tr Z h194 b2_11 .int [(.int n197), (.int n198), (.int n199), (.int n191)] := by rw [← q_n197, ← q_n198, ← q_n199]; exact gq194_6
        have hp_194 : Hp3 n197 n198 n199 L196 L188 := by rw [← q_n199, ← q_n197, ← q_n198, ← q_L196]; exact gq194_7
        have ab_194 : ∀ z : Int32, (0 ≤ z.toInt ∧ z.toInt < 4) → pv L193 z = -1 → pv L196 z = -1 := by rw [← q_L196]; exact gq194_8
        have go_194 : pv L196 n189 = -1 := by rw [← q_L196]; exact gq194_9
        have rg_194 : 0 ≤ n189.toInt ∧ n189.toInt < 4 := gq194_10
        have mn_194 : kv L188 n189 ≤ kv L188 n197 ∧ kv L188 n189 ≤ kv L188 n198 ∧ kv L188 n189 ≤ kv L188 n199 := by rw [← q_n199, ← q_n197, ← q_n198]; exact gq194_11
        replace Z0 := Nat.le_trans Z0 Kq194.1
        refine own_istore X194 hx hby (L' := #[.val (.int p0), .val (.int p1), .val (.int p2), .val (.int p3), .val (.int p4), .val (.int p5), .val (.ref b1), .val (.ref b10), .val (.int n36), .val (.double v183), .second, .val (.int n189), .unset, .unset, .unset, .unset, .unset]) rfl at_120 (pc' := 122) rfl ?_
        have rg_n189 := rg_194
        refine own_aload X194 hx hby rfl rfl at_122 (pc' := 124) rfl ?_
        refine own_virtual X194 hx hby hZ (y := (⟨"com/example/cross_town/crosstown/solve/NodeHeap", "poll", "()I"⟩ : MethodName)) (y' := (⟨"com/example/cross_town/crosstown/solve/NodeHeap", "poll", "()I"⟩ : MethodName)) (C := "com/example/cross_town/crosstown/solve/NodeHeap") (rest := []) hown (hw _ (List.mem_of_getElem? (i := 37) rfl)) (hw _ (List.mem_of_getElem? (i := 38) rfl)) (notFace_of_selects (args := #[]) (mvT hZ (hw _ (List.mem_of_getElem? (i := 40) rfl)))) (hw _ (List.mem_of_getElem? (i := 40) rfl)) (hw _ (List.mem_of_getElem? (i := 39) rfl)) (hw _ (List.mem_of_getElem? (i := 41) rfl)) (hw _ (List.mem_of_getElem? (i := 3) rfl)) (by decide) (rm73 l Z a0 hw [] b10 b2_11 b4_11 b6_11 n197 n198 n199 n191 L196 L188 h194 n0 Z0 E_b10 F_b10_heap F_b10_position F_b10_key V_b2_11 V_b4_11 (by first | assumption | rfl | (simp only [List.length_set]; first | assumption | rfl)) V_b6_11 (by first | assumption | rfl | (simp only [List.length_set]; first | assumption | rfl)) F_b10_size nnk_186 hp_194 g_b4_11 ne_b10_b4_11 ne_b2_11_b4_11 (Ne.symm ne_b4_11_b6_11) g_b10 (Ne.symm ne_b10_b2_11) (Ne.symm ne_b10_b6_11) g_b2_11 (Ne.symm ne_b2_11_b6_11)) eH194 (by rw [hml]; rfl) (a := b10) E_b10 (argsL := []) rfl (lenOf pd_4 rfl) rfl at_124 (pc' := 127) rfl (by decide) (W := 0) (Nat.le_of_eq rfl) (by decide) (by decide) (by decide) (fun T200 h200 Lc200 v200r X200 eH200 hQ200 => ?_)
        obtain ⟨rfl, Nq200, Kq200, gq200_0, gq200_1, gq200_2, gq200_3, gq200_4, gq200_5, gq200_6, gq200_7, gq200_8, gq200_9, gq200_10, gq200_11⟩ := hQ200
        have N200 := Fr.app N194 Nq200
        replace E_b1 := E_b1.keep Kq200
        replace V_b1 := V_b1.keep Kq200 (ninS ne_b1_b4_11 (ninS ne_b1_b10 (ninS ne_b1_b2_11 nin0)))
        replace E_b10 := E_b10.keep Kq200
        replace E_b2_11 := E_b2_11.keep Kq200
        replace E_b4_11 := E_b4_11.keep Kq200
        replace E_b6_11 := E_b6_11.keep Kq200
        replace V_b6_11 := V_b6_11.keep Kq200 (ninS (Ne.symm ne_b4_11_b6_11) (ninS (Ne.symm ne_b10_b6_11) (ninS (Ne.symm ne_b2_11_b6_11) nin0)))
        have hl201 : (if dle (L188.getD n199.toNatClampNeg 0) (L188.getD n198.toNatClampNeg 0) then ((L196.set n197.toNatClampNeg (-1 : Int32)).set n199.toNatClampNeg (0 : Int32)) else (((L196.set n197.toNatClampNeg (-1 : Int32)).set n198.toNatClampNeg (0 : Int32)).set n199.toNatClampNeg (1 : Int32))).length = 4 := by (repeat' split) <;> (simp only [List.length_set]; first | assumption | rfl)
        obtain ⟨L202, q_L202⟩ : ∃ z, (if dle (L188.getD n199.toNatClampNeg 0) (L188.getD n198.toNatClampNeg 0) then ((L196.set n197.toNatClampNeg (-1 : Int32)).set n199.toNatClampNeg (0 : Int32)) else (((L196.set n197.toNatClampNeg (-1 : Int32)).set n198.toNatClampNeg (0 : Int32)).set n199.toNatClampNeg (1 : Int32))) = z := ⟨_, rfl⟩
        rw [q_L202] at gq200_0 hl201
        have V_b4_11 := gq200_0
        have E_b10 := gq200_1
        have F_b10_heap := gq200_2
        have F_b10_position := gq200_3
        have F_b10_key := gq200_4
        have F_b10_size := gq200_5
        obtain ⟨n203, q_n203⟩ : ∃ z : Int32, (if dle (L188.getD n199.toNatClampNeg 0) (L188.getD n198.toNatClampNeg 0) then n199 else n198) = z := ⟨_, rfl⟩
        obtain ⟨n204, q_n204⟩ : ∃ z : Int32, (if dle (L188.getD n199.toNatClampNeg 0) (L188.getD n198.toNatClampNeg 0) then n198 else n199) = z := ⟨_, rfl⟩
        have V_b2_11 : Ary tr Z h200 b2_11 .int [(.int n203), (.int n204), (.int n199), (.int n191)] := by rw [← q_n203, ← q_n204]; exact gq200_6
        have hp_200 : Hp2 n203 n204 L202 L188 := by rw [← q_n204, ← q_n203, ← q_L202]; exact gq200_7
        have ab_200 : ∀ z : Int32, (0 ≤ z.toInt ∧ z.toInt < 4) → pv L196 z = -1 → pv L202 z = -1 := by rw [← q_L202]; exact gq200_8
        have go_200 : pv L202 n197 = -1 := by rw [← q_L202]; exact gq200_9
        have rg_200 : 0 ≤ n197.toInt ∧ n197.toInt < 4 := gq200_10
        have mn_200 : kv L188 n197 ≤ kv L188 n203 ∧ kv L188 n197 ≤ kv L188 n204 := by rw [← q_n204, ← q_n203]; exact gq200_11
        replace Z0 := Nat.le_trans Z0 Kq200.1
        as_aux_lemma =>
          refine own_istore X200 hx hby (L' := #[.val (.int p0), .val (.int p1), .val (.int p2), .val (.int p3), .val (.int p4), .val (.int p5), .val (.ref b1), .val (.ref b10), .val (.int n36), .val (.double v183), .second, .val (.int n189), .val (.int n197), .unset, .unset, .unset, .unset]) rfl at_127 (pc' := 129) rfl ?_
          have rg_n197 := rg_200
          refine own_aload X200 hx hby rfl rfl at_129 (pc' := 131) rfl ?_
          refine own_virtual X200 hx hby hZ (y := (⟨"com/example/cross_town/crosstown/solve/NodeHeap", "poll", "()I"⟩ : MethodName)) (y' := (⟨"com/example/cross_town/crosstown/solve/NodeHeap", "poll", "()I"⟩ : MethodName)) (C := "com/example/cross_town/crosstown/solve/NodeHeap") (rest := []) hown (hw _ (List.mem_of_getElem? (i := 37) rfl)) (hw _ (List.mem_of_getElem? (i := 38) rfl)) (notFace_of_selects (args := #[]) (mvT hZ (hw _ (List.mem_of_getElem? (i := 40) rfl)))) (hw _ (List.mem_of_getElem? (i := 40) rfl)) (hw _ (List.mem_of_getElem? (i := 39) rfl)) (hw _ (List.mem_of_getElem? (i := 41) rfl)) (hw _ (List.mem_of_getElem? (i := 3) rfl)) (by decide) (rm72 l Z a0 hw [] b10 b2_11 b4_11 b6_11 n203 n204 n199 n191 L202 L188 h200 n0 Z0 E_b10 F_b10_heap F_b10_position F_b10_key V_b2_11 V_b4_11 (by first | assumption | rfl | (simp only [List.length_set]; first | assumption | rfl)) V_b6_11 (by first | assumption | rfl | (simp only [List.length_set]; first | assumption | rfl)) F_b10_size nnk_186 hp_200 g_b4_11 ne_b10_b4_11 ne_b2_11_b4_11 (Ne.symm ne_b4_11_b6_11) g_b10 (Ne.symm ne_b10_b2_11) (Ne.symm ne_b10_b6_11) g_b2_11 (Ne.symm ne_b2_11_b6_11)) eH200 (by rw [hml]; rfl) (a := b10) E_b10 (argsL := []) rfl (lenOf pd_4 rfl) rfl at_131 (pc' := 134) rfl (by decide) (W := 0) (Nat.le_of_eq rfl) (by decide) (by decide) (by decide) (fun T205 h205 Lc205 v205r X205 eH205 hQ205 => ?_)
          obtain ⟨rfl, Nq205, Kq205, gq205_0, gq205_1, gq205_2, gq205_3, gq205_4, gq205_5, gq205_6, gq205_7, gq205_8, gq205_9, gq205_10, gq205_11⟩ := hQ205
          have N205 := Fr.app N200 Nq205
          replace E_b1 := E_b1.keep Kq205
          replace V_b1 := V_b1.keep Kq205 (ninS ne_b1_b4_11 (ninS ne_b1_b10 (ninS ne_b1_b2_11 nin0)))
          replace E_b10 := E_b10.keep Kq205
          replace E_b2_11 := E_b2_11.keep Kq205
          replace E_b4_11 := E_b4_11.keep Kq205
          replace E_b6_11 := E_b6_11.keep Kq205
          replace V_b6_11 := V_b6_11.keep Kq205 (ninS (Ne.symm ne_b4_11_b6_11) (ninS (Ne.symm ne_b10_b6_11) (ninS (Ne.symm ne_b2_11_b6_11) nin0)))
          have hl206 : ((L202.set n203.toNatClampNeg (-1 : Int32)).set n204.toNatClampNeg (0 : Int32)).length = 4 := by (repeat' split) <;> (simp only [List.length_set]; first | assumption | rfl)
          obtain ⟨L207, q_L207⟩ : ∃ z, ((L202.set n203.toNatClampNeg (-1 : Int32)).set n204.toNatClampNeg (0 : Int32)) = z := ⟨_, rfl⟩
          rw [q_L207] at gq205_0 hl206
          have V_b4_11 := gq205_0
          have E_b10 := gq205_1
          have F_b10_heap := gq205_2
          have F_b10_position := gq205_3
          have F_b10_key := gq205_4
          have F_b10_size := gq205_5
          have V_b2_11 := gq205_6
          have hp_205 : Hp1 n204 L207 L188 := by rw [← q_L207]; exact gq205_7
          have ab_205 : ∀ z : Int32, (0 ≤ z.toInt ∧ z.toInt < 4) → pv L202 z = -1 → pv L207 z = -1 := by rw [← q_L207]; exact gq205_8
          have go_205 : pv L207 n203 = -1 := by rw [← q_L207]; exact gq205_9
          have rg_205 : 0 ≤ n203.toInt ∧ n203.toInt < 4 := gq205_10
          have mn_205 : kv L188 n203 ≤ kv L188 n204 := gq205_11
          replace Z0 := Nat.le_trans Z0 Kq205.1
          refine own_istore X205 hx hby (L' := #[.val (.int p0), .val (.int p1), .val (.int p2), .val (.int p3), .val (.int p4), .val (.int p5), .val (.ref b1), .val (.ref b10), .val (.int n36), .val (.double v183), .second, .val (.int n189), .val (.int n197), .val (.int n203), .unset, .unset, .unset]) rfl at_134 (pc' := 136) rfl ?_
          have rg_n203 := rg_205
          refine own_aload X205 hx hby rfl rfl at_136 (pc' := 138) rfl ?_
          refine own_virtual X205 hx hby hZ (y := (⟨"com/example/cross_town/crosstown/solve/NodeHeap", "poll", "()I"⟩ : MethodName)) (y' := (⟨"com/example/cross_town/crosstown/solve/NodeHeap", "poll", "()I"⟩ : MethodName)) (C := "com/example/cross_town/crosstown/solve/NodeHeap") (rest := []) hown (hw _ (List.mem_of_getElem? (i := 37) rfl)) (hw _ (List.mem_of_getElem? (i := 38) rfl)) (notFace_of_selects (args := #[]) (mvT hZ (hw _ (List.mem_of_getElem? (i := 40) rfl)))) (hw _ (List.mem_of_getElem? (i := 40) rfl)) (hw _ (List.mem_of_getElem? (i := 39) rfl)) (hw _ (List.mem_of_getElem? (i := 41) rfl)) (hw _ (List.mem_of_getElem? (i := 3) rfl)) (by decide) (rm71 l Z a0 hw [] b10 b2_11 b4_11 b6_11 n204 n204 n199 n191 L207 L188 h205 n0 Z0 E_b10 F_b10_heap F_b10_position F_b10_key V_b2_11 V_b4_11 (by first | assumption | rfl | (simp only [List.length_set]; first | assumption | rfl)) V_b6_11 (by first | assumption | rfl | (simp only [List.length_set]; first | assumption | rfl)) F_b10_size nnk_186 hp_205 g_b4_11 ne_b10_b4_11 ne_b2_11_b4_11 (Ne.symm ne_b4_11_b6_11) g_b10 (Ne.symm ne_b10_b2_11) (Ne.symm ne_b10_b6_11)) eH205 (by rw [hml]; rfl) (a := b10) E_b10 (argsL := []) rfl (lenOf pd_4 rfl) rfl at_138 (pc' := 141) rfl (by decide) (W := 0) (Nat.le_of_eq rfl) (by decide) (by decide) (by decide) (fun T208 h208 Lc208 v208r X208 eH208 hQ208 => ?_)
          obtain ⟨rfl, Nq208, Kq208, gq208_0, gq208_1, gq208_2, gq208_3, gq208_4, gq208_5, gq208_6, gq208_7, gq208_8⟩ := hQ208
          have N208 := Fr.app N205 Nq208
          replace E_b1 := E_b1.keep Kq208
          replace V_b1 := V_b1.keep Kq208 (ninS ne_b1_b4_11 (ninS ne_b1_b10 nin0))
          replace E_b10 := E_b10.keep Kq208
          replace E_b2_11 := E_b2_11.keep Kq208
          replace V_b2_11 := V_b2_11.keep Kq208 (ninS ne_b2_11_b4_11 (ninS (Ne.symm ne_b10_b2_11) nin0))
          replace E_b4_11 := E_b4_11.keep Kq208
          replace E_b6_11 := E_b6_11.keep Kq208
          replace V_b6_11 := V_b6_11.keep Kq208 (ninS (Ne.symm ne_b4_11_b6_11) (ninS (Ne.symm ne_b10_b6_11) nin0))
          have hl209 : (L207.set n204.toNatClampNeg (-1 : Int32)).length = 4 := by (repeat' split) <;> (simp only [List.length_set]; first | assumption | rfl)
          obtain ⟨L210, q_L210⟩ : ∃ z, (L207.set n204.toNatClampNeg (-1 : Int32)) = z := ⟨_, rfl⟩
          rw [q_L210] at gq208_0 hl209
          have V_b4_11 := gq208_0
          have E_b10 := gq208_1
          have F_b10_heap := gq208_2
          have F_b10_position := gq208_3
          have F_b10_key := gq208_4
          have F_b10_size := gq208_5
          have ab_208 : ∀ z : Int32, (0 ≤ z.toInt ∧ z.toInt < 4) → pv L207 z = -1 → pv L210 z = -1 := by rw [← q_L210]; exact gq208_6
          have go_208 : pv L210 n204 = -1 := by rw [← q_L210]; exact gq208_7
          have rg_208 : 0 ≤ n204.toInt ∧ n204.toInt < 4 := gq208_8
          replace Z0 := Nat.le_trans Z0 Kq208.1
          refine own_istore X208 hx hby (L' := #[.val (.int p0), .val (.int p1), .val (.int p2), .val (.int p3), .val (.int p4), .val (.int p5), .val (.ref b1), .val (.ref b10), .val (.int n36), .val (.double v183), .second, .val (.int n189), .val (.int n197), .val (.int n203), .val (.int n204), .unset, .unset]) rfl at_141 (pc' := 143) rfl ?_
          have rg_n204 := rg_208
          have a2 := ab_200 n189 rg_n189 go_194
          have a3 := ab_205 n189 rg_n189 a2
          have b3 := ab_205 n197 rg_n197 go_200
          have n1 := own_pne go_194 (hp_194).2.2.2.1 (by decide)
          have n2 := own_pne a2 (hp_200).2.2.1 (by decide)
          have n3 := own_pne a3 (hp_205).2 (by decide)
          have n4 := own_pne go_200 (hp_200).2.2.1 (by decide)
          have n5 := own_pne b3 (hp_205).2 (by decide)
          have n6 := own_pne go_205 (hp_205).2 (by decide)
          have k1 := (mn_194).1
          have k2 := (mn_200).1
          have k3 := mn_205
          refine own_aload X208 hx hby rfl rfl at_143 (pc' := 145) rfl ?_
          refine own_virtual X208 hx hby hZ (y := (⟨"com/example/cross_town/crosstown/solve/NodeHeap", "isEmpty", "()Z"⟩ : MethodName)) (y' := (⟨"com/example/cross_town/crosstown/solve/NodeHeap", "isEmpty", "()Z"⟩ : MethodName)) (C := "com/example/cross_town/crosstown/solve/NodeHeap") (rest := []) hown (hw _ (List.mem_of_getElem? (i := 46) rfl)) (hw _ (List.mem_of_getElem? (i := 47) rfl)) (notFace_of_selects (args := #[]) (mvT hZ (hw _ (List.mem_of_getElem? (i := 49) rfl)))) (hw _ (List.mem_of_getElem? (i := 49) rfl)) (hw _ (List.mem_of_getElem? (i := 48) rfl)) (hw _ (List.mem_of_getElem? (i := 50) rfl)) (hw _ (List.mem_of_getElem? (i := 3) rfl)) (by decide) (rm9 l Z a0 hw [] b10 (0 : Int32) h208 n0 Z0 F_b10_size) eH208 (by rw [hml]; rfl) (a := b10) E_b10 (argsL := []) rfl (lenOf pd_5 rfl) rfl at_145 (pc' := 148) rfl (by decide) (W := 0) (Nat.le_of_eq rfl) (by decide) (by decide) (by decide) (fun T211 h211 Lc211 v211r X211 eH211 hQ211 => ?_)
          obtain ⟨rfl, Nq211, rfl⟩ := hQ211
          have N211 := Fr.app N208 Nq211
          dsimp only [Option.toList, List.cons_append, List.nil_append]
          generalize q_r212 : (if (0 : Int32) = 0 then (1 : Int32) else (0 : Int32)) = r212
          refine own_istore X211 hx hby (L' := #[.val (.int p0), .val (.int p1), .val (.int p2), .val (.int p3), .val (.int p4), .val (.int p5), .val (.ref b1), .val (.ref b10), .val (.int n36), .val (.double v183), .second, .val (.int n189), .val (.int n197), .val (.int n203), .val (.int n204), .val (.int r212), .unset]) rfl at_148 (pc' := 150) rfl ?_
          refine own_iload X211 hx hby rfl at_150 (pc' := 152) rfl ?_
          refine own_static X211 hx hby hZ (y := (⟨"com/example/cross_town/crosstown/solve/NodeHeapInsertOrLowerPinLaw", "inRange", "(I)Z"⟩ : MethodName)) (rest := []) hown (hw _ (List.mem_of_getElem? (i := 51) rfl)) (hw _ (List.mem_of_getElem? (i := 52) rfl)) (hw _ (List.mem_of_getElem? (i := 54) rfl)) (hw _ (List.mem_of_getElem? (i := 53) rfl)) (by decide) (rm10 l Z a0 hw [] n189 h208 n0 Z0) eH211 (by rw [hml]; rfl) (argsL := [(.int n189)]) rfl (lenOf pd_6 rfl) rfl at_152 (pc' := 155) rfl (by decide) (W := 0) (Nat.le_of_eq rfl) (by decide) (by decide) (by decide) (fun T213 h213 Lc213 v213r X213 eH213 hQ213 => ?_)
          obtain ⟨rfl, Nq213, rfl⟩ := hQ213
          have N213 := Fr.app N211 Nq213
          dsimp only [Option.toList, List.cons_append, List.nil_append]
          generalize q_r214 : (if n189 < 0 then (0 : Int32) else (if n189 < (4 : Int32) then (1 : Int32) else (0 : Int32))) = r214
          have hk215 : ¬ (r214 = 0) := own_okr rg_n189 q_r214
          refine own_ifF X213 hx hby at_155 (own_i0_eq_n hk215) (pc' := 158) rfl ?_
          refine own_iload X213 hx hby rfl at_158 (pc' := 160) rfl ?_
          refine own_static X213 hx hby hZ (y := (⟨"com/example/cross_town/crosstown/solve/NodeHeapInsertOrLowerPinLaw", "inRange", "(I)Z"⟩ : MethodName)) (rest := []) hown (hw _ (List.mem_of_getElem? (i := 51) rfl)) (hw _ (List.mem_of_getElem? (i := 52) rfl)) (hw _ (List.mem_of_getElem? (i := 54) rfl)) (hw _ (List.mem_of_getElem? (i := 53) rfl)) (by decide) (rm10 l Z a0 hw [] n197 h208 n0 Z0) eH213 (by rw [hml]; rfl) (argsL := [(.int n197)]) rfl (lenOf pd_6 rfl) rfl at_160 (pc' := 163) rfl (by decide) (W := 0) (Nat.le_of_eq rfl) (by decide) (by decide) (by decide) (fun T216 h216 Lc216 v216r X216 eH216 hQ216 => ?_)
          obtain ⟨rfl, Nq216, rfl⟩ := hQ216
          have N216 := Fr.app N213 Nq216
          dsimp only [Option.toList, List.cons_append, List.nil_append]
          generalize q_r217 : (if n197 < 0 then (0 : Int32) else (if n197 < (4 : Int32) then (1 : Int32) else (0 : Int32))) = r217
          have hk218 : ¬ (r217 = 0) := own_okr rg_n197 q_r217
          refine own_ifF X216 hx hby at_163 (own_i0_eq_n hk218) (pc' := 166) rfl ?_
          refine own_iload X216 hx hby rfl at_166 (pc' := 168) rfl ?_
          refine own_static X216 hx hby hZ (y := (⟨"com/example/cross_town/crosstown/solve/NodeHeapInsertOrLowerPinLaw", "inRange", "(I)Z"⟩ : MethodName)) (rest := []) hown (hw _ (List.mem_of_getElem? (i := 51) rfl)) (hw _ (List.mem_of_getElem? (i := 52) rfl)) (hw _ (List.mem_of_getElem? (i := 54) rfl)) (hw _ (List.mem_of_getElem? (i := 53) rfl)) (by decide) (rm10 l Z a0 hw [] n203 h208 n0 Z0) eH216 (by rw [hml]; rfl) (argsL := [(.int n203)]) rfl (lenOf pd_6 rfl) rfl at_168 (pc' := 171) rfl (by decide) (W := 0) (Nat.le_of_eq rfl) (by decide) (by decide) (by decide) (fun T219 h219 Lc219 v219r X219 eH219 hQ219 => ?_)
          obtain ⟨rfl, Nq219, rfl⟩ := hQ219
          have N219 := Fr.app N216 Nq219
          dsimp only [Option.toList, List.cons_append, List.nil_append]
          generalize q_r220 : (if n203 < 0 then (0 : Int32) else (if n203 < (4 : Int32) then (1 : Int32) else (0 : Int32))) = r220
          have hk221 : ¬ (r220 = 0) := own_okr rg_n203 q_r220
          refine own_ifF X219 hx hby at_171 (own_i0_eq_n hk221) (pc' := 174) rfl ?_
          refine own_iload X219 hx hby rfl at_174 (pc' := 176) rfl ?_
          refine own_static X219 hx hby hZ (y := (⟨"com/example/cross_town/crosstown/solve/NodeHeapInsertOrLowerPinLaw", "inRange", "(I)Z"⟩ : MethodName)) (rest := []) hown (hw _ (List.mem_of_getElem? (i := 51) rfl)) (hw _ (List.mem_of_getElem? (i := 52) rfl)) (hw _ (List.mem_of_getElem? (i := 54) rfl)) (hw _ (List.mem_of_getElem? (i := 53) rfl)) (by decide) (rm10 l Z a0 hw [] n204 h208 n0 Z0) eH219 (by rw [hml]; rfl) (argsL := [(.int n204)]) rfl (lenOf pd_6 rfl) rfl at_176 (pc' := 179) rfl (by decide) (W := 0) (Nat.le_of_eq rfl) (by decide) (by decide) (by decide) (fun T222 h222 Lc222 v222r X222 eH222 hQ222 => ?_)
          obtain ⟨rfl, Nq222, rfl⟩ := hQ222
          have N222 := Fr.app N219 Nq222
          dsimp only [Option.toList, List.cons_append, List.nil_append]
          generalize q_r223 : (if n204 < 0 then (0 : Int32) else (if n204 < (4 : Int32) then (1 : Int32) else (0 : Int32))) = r223
          have hk224 : ¬ (r223 = 0) := own_okr rg_n204 q_r223
          refine own_ifT X222 hx hby at_179 (own_i0_ne_n hk224) (by decide) (pc' := 184) (by decide) ?_
          refine own_iconst X222 hx hby (v := (1 : Int32)) (by decide) at_184 (pc' := 185) rfl ?_
          refine own_iload X222 hx hby rfl at_185 (pc' := 187) rfl ?_
          refine own_ishl X222 hx hby rfl at_187 (pc' := 188) rfl ?_
          refine own_iconst X222 hx hby (v := (1 : Int32)) (by decide) at_188 (pc' := 189) rfl ?_
          refine own_iload X222 hx hby rfl at_189 (pc' := 191) rfl ?_
          refine own_ishl X222 hx hby rfl at_191 (pc' := 192) rfl ?_
          refine own_ior X222 hx hby rfl at_192 (pc' := 193) rfl ?_
          refine own_iconst X222 hx hby (v := (1 : Int32)) (by decide) at_193 (pc' := 194) rfl ?_
          refine own_iload X222 hx hby rfl at_194 (pc' := 196) rfl ?_
          refine own_ishl X222 hx hby rfl at_196 (pc' := 197) rfl ?_
          refine own_ior X222 hx hby rfl at_197 (pc' := 198) rfl ?_
          refine own_iconst X222 hx hby (v := (1 : Int32)) (by decide) at_198 (pc' := 199) rfl ?_
          as_aux_lemma =>
            refine own_iload X222 hx hby rfl at_199 (pc' := 201) rfl ?_
            refine own_ishl X222 hx hby rfl at_201 (pc' := 202) rfl ?_
            refine own_ior X222 hx hby rfl at_202 (pc' := 203) rfl ?_
            generalize q_n225 : (((((1 : Int32) <<< (n189 &&& 31)) ||| ((1 : Int32) <<< (n197 &&& 31))) ||| ((1 : Int32) <<< (n203 &&& 31))) ||| ((1 : Int32) <<< (n204 &&& 31))) = n225
            refine own_istore X222 hx hby (L' := #[.val (.int p0), .val (.int p1), .val (.int p2), .val (.int p3), .val (.int p4), .val (.int p5), .val (.ref b1), .val (.ref b10), .val (.int n36), .val (.double v183), .second, .val (.int n189), .val (.int n197), .val (.int n203), .val (.int n204), .val (.int r212), .val (.int n225)]) rfl at_203 (pc' := 205) rfl ?_
            refine own_iload X222 hx hby rfl at_205 (pc' := 207) rfl ?_
            have hk226 : ¬ (r212 = 0) := by rw [← q_r212]; decide
            refine own_ifF X222 hx hby at_207 (own_i0_eq_n hk226) (pc' := 210) rfl ?_
            refine own_iload X222 hx hby rfl at_210 (pc' := 212) rfl ?_
            refine own_bipush X222 hx hby (v := (15 : Int32)) (by decide) at_212 (pc' := 214) rfl ?_
            have hk227 : n225 = (15 : Int32) := q_n225.symm.trans (own_mask15 rg_n189 rg_n197 rg_n203 rg_n204 n1 n2 n3 n4 n5 n6)
            refine own_icF X222 hx hby at_214 (own_ic_ne_p hk227) (pc' := 217) rfl ?_
            refine own_aload X222 hx hby rfl rfl at_217 (pc' := 219) rfl ?_
            refine own_iload X222 hx hby rfl at_219 (pc' := 221) rfl ?_
            refine own_daload X222 hx hby hZ eH222 V_b1 (own_rg0 rg_n189) (v := (.double ((DD.set n36.toNatClampNeg v183).getD n189.toNatClampNeg 0))) (own_lget (own_rgl rg_n189 hl185)) at_221 (pc' := 222) rfl ?_
            refine own_aload X222 hx hby rfl rfl at_222 (pc' := 224) rfl ?_
            refine own_iload X222 hx hby rfl at_224 (pc' := 226) rfl ?_
            refine own_daload X222 hx hby hZ eH222 V_b1 (own_rg0 rg_n197) (v := (.double ((DD.set n36.toNatClampNeg v183).getD n197.toNatClampNeg 0))) (own_lget (own_rgl rg_n197 hl185)) at_226 (pc' := 227) rfl ?_
            refine own_dcmp X222 hx hby rfl at_227 (pc' := 228) rfl ?_
            have hk228 : dle ((DD.set n36.toNatClampNeg v183).getD n189.toNatClampNeg 0) ((DD.set n36.toNatClampNeg v183).getD n197.toNatClampNeg 0) := own_dled R5 nD5 rg_n189 rg_n197 k1
            refine own_ifF X222 hx hby at_228 (own_dg_gt_p hk228) (pc' := 231) rfl ?_
            refine own_aload X222 hx hby rfl rfl at_231 (pc' := 233) rfl ?_
            refine own_iload X222 hx hby rfl at_233 (pc' := 235) rfl ?_
            refine own_daload X222 hx hby hZ eH222 V_b1 (own_rg0 rg_n197) (v := (.double ((DD.set n36.toNatClampNeg v183).getD n197.toNatClampNeg 0))) (own_lget (own_rgl rg_n197 hl185)) at_235 (pc' := 236) rfl ?_
            refine own_aload X222 hx hby rfl rfl at_236 (pc' := 238) rfl ?_
            refine own_iload X222 hx hby rfl at_238 (pc' := 240) rfl ?_
            refine own_daload X222 hx hby hZ eH222 V_b1 (own_rg0 rg_n203) (v := (.double ((DD.set n36.toNatClampNeg v183).getD n203.toNatClampNeg 0))) (own_lget (own_rgl rg_n203 hl185)) at_240 (pc' := 241) rfl ?_
            refine own_dcmp X222 hx hby rfl at_241 (pc' := 242) rfl ?_
            have hk229 : dle ((DD.set n36.toNatClampNeg v183).getD n197.toNatClampNeg 0) ((DD.set n36.toNatClampNeg v183).getD n203.toNatClampNeg 0) := own_dled R5 nD5 rg_n197 rg_n203 k2
            refine own_ifF X222 hx hby at_242 (own_dg_gt_p hk229) (pc' := 245) rfl ?_
            refine own_aload X222 hx hby rfl rfl at_245 (pc' := 247) rfl ?_
            refine own_iload X222 hx hby rfl at_247 (pc' := 249) rfl ?_
            refine own_daload X222 hx hby hZ eH222 V_b1 (own_rg0 rg_n203) (v := (.double ((DD.set n36.toNatClampNeg v183).getD n203.toNatClampNeg 0))) (own_lget (own_rgl rg_n203 hl185)) at_249 (pc' := 250) rfl ?_
            refine own_aload X222 hx hby rfl rfl at_250 (pc' := 252) rfl ?_
            refine own_iload X222 hx hby rfl at_252 (pc' := 254) rfl ?_
            refine own_daload X222 hx hby hZ eH222 V_b1 (own_rg0 rg_n204) (v := (.double ((DD.set n36.toNatClampNeg v183).getD n204.toNatClampNeg 0))) (own_lget (own_rgl rg_n204 hl185)) at_254 (pc' := 255) rfl ?_
            refine own_dcmp X222 hx hby rfl at_255 (pc' := 256) rfl ?_
            have hk230 : dle ((DD.set n36.toNatClampNeg v183).getD n203.toNatClampNeg 0) ((DD.set n36.toNatClampNeg v183).getD n204.toNatClampNeg 0) := own_dled R5 nD5 rg_n203 rg_n204 k3
            refine own_ifF X222 hx hby at_256 (own_dg_gt_p hk230) (pc' := 259) rfl ?_
            refine own_iconst X222 hx hby (v := (1 : Int32)) (by decide) at_259 (pc' := 260) rfl ?_
            refine own_goto X222 hx hby at_260 (by decide) (pc' := 264) (by decide) ?_
            exact own_retZ X222 hx hby Bd.notSynchronized Bd.returns (Or.inr rfl) at_264 (by decide) (by decide) eH222 ⟨rfl, N222⟩
set_option maxRecDepth 65536 in
set_option maxHeartbeats 40000000 in
theorem comes_1 {Post : Tables → Env → Array Value → State → Outcome → State → Prop} (hpost : ∀ tb e args s v u, (limb_1_1.after args s (.returned v) u = true ∧ limb_1_2.after args s (.returned v) u = true ∧ True) → FrameEnd s (.returned v) u (Jvm.fieldLocs frame_1_writes args s ++ Jvm.arrayLocs frame_1_arrays args s ++ Jvm.staticLocs frame_1_statics s) 24 128 → Post tb e args s (.returned v) u) :
    ArmFor flags0 classFile x code maxLocals ret World_1 tables_1 room_1 Calls_1 rest_1 Pre_1 Post := by
  intro l hfl _ _ p e ha hc hk s m args below hf hA hF happ hP
  obtain ⟨hcalls, hrest, hpre⟩ := hP
  obtain ⟨-, -, -, hnamed, -, -, -, hat⟩ := (Spec.applies_iff hf).mp happ
  obtain ⟨hg, hn⟩ := and_e (Cond.before_iff.mp (show (Jvm.Cond.and given_1 narrow_1).before args s = true from hpre))
  obtain ⟨gg1, gg2⟩ := and_e hg
  obtain ⟨gg3, gg4⟩ := and_e gg2
  obtain ⟨gg5, gg6⟩ := and_e gg4
  obtain ⟨gg7, gg8⟩ := and_e gg6
  obtain ⟨gg9, gg10⟩ := and_e gg8
  obtain ⟨gg11, gg12⟩ := and_e gg10
  obtain ⟨w0, w1, w2, w3, w4, w5, rfl⟩ : ∃ w0 w1 w2 w3 w4 w5 : Value, args = #[w0, w1, w2, w3, w4, w5] := by
    have hs : args.size = 6 := by simpa [Cond.value, given_1] using gg1
    obtain ⟨L⟩ := args
    match L, hs with
    | [w0, w1, w2, w3, w4, w5], _ => exact ⟨w0, w1, w2, w3, w4, w5, rfl⟩
  have hw := fun d (hd : d ∈ tables_1) => atoms_spec (ws := Jvm.Cond.code x code maxLocals ret :: tables_1) hat d (List.mem_cons_of_mem _ hd)
  have hfit : Fit s := fun {y c} hc i hi => by
    obtain ⟨ha, rfl⟩ := Array.getElem?_eq_some_iff.mp hc
    have q := List.all_eq_true.mp ((Array.all_eq_true_iff_forall_mem.mp hF) _ (Array.getElem_mem ha)) i (List.mem_range.mpr hi)
    simpa [Array.getElem?_eq_getElem hi] using q
  obtain ⟨i0, ei0⟩ := is_v gg3
  obtain rfl : w0 = (.int i0) := Option.some.inj ei0
  obtain ⟨i1, ei1⟩ := is_v gg5
  obtain rfl : w1 = (.int i1) := Option.some.inj ei1
  obtain ⟨i2, ei2⟩ := is_v gg7
  obtain rfl : w2 = (.int i2) := Option.some.inj ei2
  obtain ⟨i3, ei3⟩ := is_v gg9
  obtain rfl : w3 = (.int i3) := Option.some.inj ei3
  obtain ⟨i4, ei4⟩ := is_v gg11
  obtain rfl : w4 = (.int i4) := Option.some.inj ei4
  obtain ⟨i5, ei5⟩ := is_v gg12
  obtain rfl : w5 = (.int i5) := Option.some.inj ei5
  obtain ⟨n, o, h1, h2, h3, _, L, rfl, ⟨rfl, N⟩, hq⟩ := rm0 l s _ hw tables_1 i0 i1 i2 i3 i4 i5 s.heap s.heap.size (Nat.le_refl _) p e ha hc hk s m _ below hf ((Spec.applies_iff_loose hf).mp happ).1 ⟨rfl, State.Warmed39.refl s, rfl⟩ trivial
  refine ⟨n, _, h1, h2, h3, hpost _ _ _ _ _ _ ⟨Cond.after_iff.mpr rfl, Cond.after_iff.mpr (eq_i res_at (Term.int_eval (1)) rfl), trivial⟩ ⟨hq.1, hq.2.1, (hq.2.2.sift fun y hy => Or.inr (N y hy)).mono (by decide) (by decide)⟩⟩
theorem main_1_1 : Claimed_1_1 := comes_1 fun _ _ _ _ _ _ h hF => ⟨h.1, hF⟩
theorem main_1_2 : Claimed_1_2 := comes_1 fun _ _ _ _ _ _ h hF => ⟨h.2.1, hF⟩
end Jvm.Pilot.@@N@@
namespace Jvm.Pilot.@@N@@
open Jvm Jvm.ClassFile Sem Op Lib Jvm.Free Jvm.Stand Jvm.Pilot.@@N@@.Jvm.D
/-! MADE BY PROGRAM (witnessworld.py) out of the Statement's table words and the real class files: 12 classes; the members and pool entries that the words name. The judged class is class 1, her method 2. -/
namespace start1
open Jvm.ClassFile
def u (s : String) : CpInfo := .utf8 (stringToUtf16 s)
/-- a pool by its gaps: so many unusable entries, then the entry; so many at the end -/
def gap : Nat → List CpInfo → List CpInfo
  | 0, r => r
  | n + 1, r => .unusable :: gap n r
def poolList (es : List (Nat × CpInfo)) (last : Nat) : List CpInfo := es.foldr (fun e r => gap e.1 (e.2 :: r)) (gap last [])
def pool (es : List (Nat × CpInfo)) (last : Nat) : Array CpInfo := ⟨poolList es last⟩
def fileOf (pool : Array CpInfo) (this : Nat) (attrs : Array Attribute := #[]) (ms : Array MethodInfo := #[]) (fl : Nat := 33) (sup : Nat := 0) (ifs : Array Nat := #[]) (fds : Array FieldInfo := #[]) : ClassFile where
  minorVersion := 0
  majorVersion := 65
  constantPool := pool
  accessFlags := fl
  thisClass := this
  superClass := sup
  interfaces := ifs
  fields := fds
  methods := ms
  attributes := attrs
def plain (name : String) (sup : Option ClassId) : Class where
  name := name
  kind := .ordinary
  loader := none
  accessFlags := 33
  super := sup
  interfaces := #[]
  cf := none
  fields := #[]
  methods := #[]
  instanceTypes := #[]
  staticTypes := #[]
  resolved := #[]
  callSites := []
  init := .initialized
  statics := none
  mirror := none

def pool0 : Array CpInfo := pool [(5, u "<init>"), (0, u "()V"), (1, .class_ 10), (1, u "java/lang/Object")] 113

def k0c0 : Code := { maxStack := 0, maxLocals := 1, code := object_method_1_code, exceptionTable := #[], attributes := #[] }
def k0m0 : Method := { name := "<init>", desc := "()V", sig := { parameters := [], returnType := none }, accessFlags := 1, code := some k0c0 }
/-- java/lang/Object -/
def k0 : Class := { plain "java/lang/Object" none with
  accessFlags := 33
  interfaces := #[]
  cf := some (fileOf pool0 8 #[] #[{ accessFlags := 1, nameIndex := 5, descriptorIndex := 6, attributes := #[] }] 33 0 #[] #[])
  fields := #[]
  methods := #[k0m0]
  instanceTypes := #[]
  staticTypes := #[]
  resolved := Array.replicate 124 none
  statics := none }

def pool1 : Array CpInfo := pool [(2, .class_ 4), (1, u "java/lang/Object"), (0, u "<init>"), (0, u "()V"), (0, .class_ 8), (0, u "com/example/cross_town/crosstown/solve/NodeHeap"), (0, .methodref 7 10), (0, .nameAndType 5 11), (0, u "(I)V"), (0, .methodref 7 13), (0, .nameAndType 14 15), (0, u "insertOrLower"), (0, u "(ID)V"), (0, .integer 2147483647), (0, .methodref 7 18), (0, .nameAndType 19 20), (0, u "poll"), (0, u "()I"), (0, .methodref 7 22), (0, .nameAndType 23 24), (0, u "isEmpty"), (0, u "()Z"), (0, .methodref 26 27), (0, .class_ 28), (0, .nameAndType 29 30), (0, u "com/example/cross_town/crosstown/solve/NodeHeapInsertOrLowerPinLaw"), (0, u "inRange"), (0, u "(I)Z"), (3, u "law"), (0, u "(IIIIII)Z")] 4

def k1m0 : Method := { name := "<init>", desc := "()V", sig := { parameters := [], returnType := none }, accessFlags := 1, code := none }
def k1c1 : Code := { maxStack := 2, maxLocals := 1, code := method_2_code, exceptionTable := #[], attributes := #[] }
def k1m1 : Method := { name := "inRange", desc := "(I)Z", sig := { parameters := [.int], returnType := some .boolean }, accessFlags := 10, code := some k1c1 }
def k1c2 : Code := { maxStack := 4, maxLocals := 17, code := code, exceptionTable := #[], attributes := #[] }
def k1m2 : Method := { name := "law", desc := "(IIIIII)Z", sig := { parameters := [.int, .int, .int, .int, .int, .int], returnType := some .boolean }, accessFlags := 9, code := some k1c2 }
/-- com/example/cross_town/crosstown/solve/NodeHeapInsertOrLowerPinLaw -/
def k1 : Class := { plain "com/example/cross_town/crosstown/solve/NodeHeapInsertOrLowerPinLaw" (some 0) with
  accessFlags := 49
  interfaces := #[]
  cf := some (fileOf pool1 26 #[] #[{ accessFlags := 1, nameIndex := 5, descriptorIndex := 6, attributes := #[] }, { accessFlags := 10, nameIndex := 29, descriptorIndex := 30, attributes := #[] }, { accessFlags := 9, nameIndex := 34, descriptorIndex := 35, attributes := #[] }] 49 2 #[] #[])
  fields := #[]
  methods := #[k1m0, k1m1, k1m2]
  instanceTypes := #[]
  staticTypes := #[]
  resolved := Array.replicate 40 none
  statics := none }

def pool2 : Array CpInfo := pool [(1, .methodref 2 3), (0, .class_ 4), (0, .nameAndType 5 6), (0, u "java/lang/Object"), (0, u "<init>"), (0, u "()V"), (0, .fieldref 8 9), (0, .class_ 10), (0, .nameAndType 11 12), (0, u "com/example/cross_town/crosstown/solve/NodeHeap"), (0, u "heap"), (0, u "[I"), (0, .fieldref 8 14), (0, .nameAndType 15 12), (0, u "position"), (0, .fieldref 8 17), (0, .nameAndType 18 19), (0, u "key"), (0, u "[D"), (0, .methodref 21 22), (0, .class_ 23), (0, .nameAndType 24 25), (0, u "java/util/Arrays"), (0, u "fill"), (0, u "([II)V"), (0, .fieldref 8 27), (0, .nameAndType 28 29), (0, u "size"), (0, u "I"), (0, .methodref 8 31), (0, .nameAndType 32 33), (0, u "siftUp"), (0, u "(II)V"), (0, .methodref 8 35), (0, .nameAndType 36 33), (0, u "siftDown"), (0, .methodref 8 38), (0, .nameAndType 39 33), (0, u "place"), (0, u "ABSENT"), (2, u "(I)V"), (2, u "isEmpty"), (0, u "()Z"), (1, u "insertOrLower"), (0, u "(ID)V"), (0, u "poll"), (0, u "()I")] 2

def k2c0 : Code := { maxStack := 2, maxLocals := 2, code := prog_33_method_1_code, exceptionTable := #[], attributes := #[] }
def k2m0 : Method := { name := "<init>", desc := "(I)V", sig := { parameters := [.int], returnType := none }, accessFlags := 0, code := some k2c0 }
def k2c1 : Code := { maxStack := 1, maxLocals := 1, code := prog_33_method_2_code, exceptionTable := #[], attributes := #[] }
def k2m1 : Method := { name := "isEmpty", desc := "()Z", sig := { parameters := [], returnType := some .boolean }, accessFlags := 0, code := some k2c1 }
def k2c2 : Code := { maxStack := 4, maxLocals := 5, code := prog_33_method_3_code, exceptionTable := #[], attributes := #[] }
def k2m2 : Method := { name := "insertOrLower", desc := "(ID)V", sig := { parameters := [.int, .double], returnType := none }, accessFlags := 0, code := some k2c2 }
def k2c3 : Code := { maxStack := 4, maxLocals := 2, code := prog_33_method_4_code, exceptionTable := #[], attributes := #[] }
def k2m3 : Method := { name := "poll", desc := "()I", sig := { parameters := [], returnType := some .int }, accessFlags := 0, code := some k2c3 }
def k2c4 : Code := { maxStack := 4, maxLocals := 5, code := prog_33_method_5_code, exceptionTable := #[], attributes := #[] }
def k2m4 : Method := { name := "siftUp", desc := "(II)V", sig := { parameters := [.int, .int], returnType := none }, accessFlags := 2, code := some k2c4 }
def k2c5 : Code := { maxStack := 5, maxLocals := 5, code := prog_33_method_6_code, exceptionTable := #[], attributes := #[] }
def k2m5 : Method := { name := "siftDown", desc := "(II)V", sig := { parameters := [.int, .int], returnType := none }, accessFlags := 2, code := some k2c5 }
def k2c6 : Code := { maxStack := 3, maxLocals := 3, code := prog_33_method_7_code, exceptionTable := #[], attributes := #[] }
def k2m6 : Method := { name := "place", desc := "(II)V", sig := { parameters := [.int, .int], returnType := none }, accessFlags := 2, code := some k2c6 }
/-- com/example/cross_town/crosstown/solve/NodeHeap -/
def k2 : Class := { plain "com/example/cross_town/crosstown/solve/NodeHeap" (some 0) with
  accessFlags := 48
  interfaces := #[]
  cf := some (fileOf pool2 8 #[] #[{ accessFlags := 0, nameIndex := 5, descriptorIndex := 43, attributes := #[] }, { accessFlags := 0, nameIndex := 46, descriptorIndex := 47, attributes := #[] }, { accessFlags := 0, nameIndex := 49, descriptorIndex := 50, attributes := #[] }, { accessFlags := 0, nameIndex := 51, descriptorIndex := 52, attributes := #[] }, { accessFlags := 2, nameIndex := 32, descriptorIndex := 33, attributes := #[] }, { accessFlags := 2, nameIndex := 36, descriptorIndex := 33, attributes := #[] }, { accessFlags := 2, nameIndex := 39, descriptorIndex := 33, attributes := #[] }] 48 2 #[] #[{ accessFlags := 26, nameIndex := 40, descriptorIndex := 29, attributes := #[] }, { accessFlags := 18, nameIndex := 11, descriptorIndex := 12, attributes := #[] }, { accessFlags := 18, nameIndex := 15, descriptorIndex := 12, attributes := #[] }, { accessFlags := 18, nameIndex := 18, descriptorIndex := 19, attributes := #[] }, { accessFlags := 2, nameIndex := 28, descriptorIndex := 29, attributes := #[] }])
  fields := #[{ name := "ABSENT", type := .int, accessFlags := 26, slot := 0, constantValue := 0 }, { name := "heap", type := (.array .int), accessFlags := 18, slot := 0, constantValue := 0 }, { name := "position", type := (.array .int), accessFlags := 18, slot := 1, constantValue := 0 }, { name := "key", type := (.array .double), accessFlags := 18, slot := 2, constantValue := 0 }, { name := "size", type := .int, accessFlags := 2, slot := 3, constantValue := 0 }]
  methods := #[k2m0, k2m1, k2m2, k2m3, k2m4, k2m5, k2m6]
  instanceTypes := #[(.array .int), (.array .int), (.array .double), .int]
  staticTypes := #[.int]
  resolved := Array.replicate 55 none
  statics := none }

def pool3 : Array CpInfo := pool [(2, .class_ 4), (1, u "java/lang/Object"), (0, u "<init>"), (0, u "()V"), (7, .class_ 16), (1, u "java/util/Arrays"), (57, .class_ 76), (1, u "java/util/Arrays$NaturalOrder"), (36, .class_ 115), (1, u "java/util/Arrays$LegacyMergeSort"), (1, u "Z"), (257, .class_ 376), (0, u "java/util/Arrays$ArrayList"), (68, u "$assertionsDisabled"), (269, u "MIN_ARRAY_SORT_GRAN"), (0, u "I"), (2, u "INSERTIONSORT_THRESHOLD"), (120, u "fill"), (4, u "([II)V"), (129, .class_ 976), (0, u "java/util/Arrays$ArrayItr")] 52

def k3m0 : Method := { name := "<init>", desc := "()V", sig := { parameters := [], returnType := none }, accessFlags := 2, code := none }
def k3c1 : Code := { maxStack := 3, maxLocals := 4, code := jdk_65_method_103_code, exceptionTable := #[], attributes := #[] }
def k3m1 : Method := { name := "fill", desc := "([II)V", sig := { parameters := [(.array .int), .int], returnType := none }, accessFlags := 9, code := some k3c1 }
/-- java/util/Arrays -/
def k3 : Class := { plain "java/util/Arrays" (some 0) with
  accessFlags := 49
  interfaces := #[]
  cf := some (fileOf pool3 14 #[.nestMembers #[975, 375, 113, 74]] #[{ accessFlags := 2, nameIndex := 5, descriptorIndex := 6, attributes := #[] }, { accessFlags := 9, nameIndex := 840, descriptorIndex := 845, attributes := #[] }] 49 2 #[] #[{ accessFlags := 26, nameIndex := 715, descriptorIndex := 716, attributes := #[] }, { accessFlags := 26, nameIndex := 719, descriptorIndex := 716, attributes := #[] }, { accessFlags := 4120, nameIndex := 445, descriptorIndex := 117, attributes := #[] }])
  fields := #[{ name := "MIN_ARRAY_SORT_GRAN", type := .int, accessFlags := 26, slot := 0, constantValue := 0 }, { name := "INSERTIONSORT_THRESHOLD", type := .int, accessFlags := 26, slot := 1, constantValue := 0 }, { name := "$assertionsDisabled", type := .boolean, accessFlags := 4120, slot := 2, constantValue := 0 }]
  methods := #[k3m0, k3m1]
  instanceTypes := #[]
  staticTypes := #[.int, .int, .boolean]
  resolved := Array.replicate 1029 none
  statics := none }

def pool4 : Array CpInfo := pool [(1, u "java/lang/Cloneable"), (0, .class_ 1), (0, u "java/lang/Object"), (0, .class_ 3)] 3

/-- java/lang/Cloneable -/
def k4 : Class := { plain "java/lang/Cloneable" (some 0) with
  accessFlags := 1537
  interfaces := #[]
  cf := some (fileOf pool4 2 #[] #[] 1537 4 #[] #[])
  fields := #[]
  methods := #[]
  instanceTypes := #[]
  staticTypes := #[]
  resolved := Array.replicate 8 none
  statics := none }

def pool5 : Array CpInfo := pool [(1, u "java/io/Serializable"), (0, .class_ 1), (0, u "java/lang/Object"), (0, .class_ 3)] 3

/-- java/io/Serializable -/
def k5 : Class := { plain "java/io/Serializable" (some 0) with
  accessFlags := 1537
  interfaces := #[]
  cf := some (fileOf pool5 2 #[] #[] 1537 4 #[] #[])
  fields := #[]
  methods := #[]
  instanceTypes := #[]
  staticTypes := #[]
  resolved := Array.replicate 8 none
  statics := none }

/-- the primitive byte -/
def k6 : Class := { plain "byte" none with kind := .primitive 'B', accessFlags := 0x411 }
/-- [B -/
def k7 : Class := { plain "[B" (some 0) with kind := .array 6 .byte, interfaces := #[4, 5], accessFlags := 1041 }

/-- the primitive double -/
def k8 : Class := { plain "double" none with kind := .primitive 'D', accessFlags := 0x411 }
/-- [D -/
def k9 : Class := { plain "[D" (some 0) with kind := .array 8 .double, interfaces := #[4, 5], accessFlags := 1041 }

/-- the primitive int -/
def k10 : Class := { plain "int" none with kind := .primitive 'I', accessFlags := 0x411 }
/-- [I -/
def k11 : Class := { plain "[I" (some 0) with kind := .array 10 .int, interfaces := #[4, 5], accessFlags := 1041 }

def heap : Heap := #[]
def classes : Array Class := #[k0, k1, k2, k3, k4, k5, k6, k7, k8, k9, k10, k11]
def interned : List (Array UInt16 × Addr) := []
def slotsUsed : Nat := 0
def theMethod : MethodId := ⟨1, 2⟩
def args0 : Array Value := #[.int 5, .int 7, .int 9, .int 2, .int 3, .int 4]
def aboutOver (below : List Frame) : State where
  vm := { classes := classes, interned := interned.toArray }
  heap := heap
  slotsUsed := slotsUsed
  threads := #[{ frames := .invoking theMethod args0 :: below }]
def below0 : List Frame := [.native { method := ⟨0, 0⟩, args := #[] }]
def about1 : State := aboutOver below0
def p0 : Program := .bare "" "" ""
def e0 : Env := launch0.env 0 0 0
theorem w_frames : about1.frames = Frame.invoking theMethod args0 :: below0 := rfl
set_option maxRecDepth 65536 in
theorem w_args : argsFit about1.vm theMethod args0 = true := by decide +kernel
set_option maxRecDepth 65536 in
theorem w_heap : heapFits about1 = true := by decide +kernel
set_option maxRecDepth 65536 in
theorem w_runnable : about1.curStatus? = some .runnable := by decide +kernel
set_option maxRecDepth 65536 in
theorem w_alone : about1.alone = true := by decide +kernel
set_option maxRecDepth 65536 in
theorem w_named : about1.methodNamed? x = some theMethod := by decide +kernel
set_option maxRecDepth 65536 in
theorem w_hears : about1.hears theMethod below0 = true := by decide +kernel
set_option maxRecDepth 65536 in
theorem w_ripe : about1.ripe theMethod args0 below0 = true := by decide +kernel
theorem w_running : about1.status = .running := rfl
set_option maxRecDepth 65536 in
theorem w_room : about1.hasRoom e0.platform room_1 = true :=
  launch0.hasRoom_least _ room_1 (by decide +kernel) (by decide +kernel) (by decide +kernel) (by decide +kernel) (by decide +kernel) (by decide +kernel)
theorem allAtoms_all (ts : List Jvm.Cond) (a : Array Jvm.Value) (st : Jvm.State) : (allAtoms ts).before a st = ts.all (fun c => c.before a st) := by
  induction ts with
  | nil => rfl
  | cons c t ih =>
    show (Jvm.Cond.and c (allAtoms t)).before a st = _
    rw [Jvm.Cond.before_and, ih, List.all_cons]
def words1 : List Jvm.Cond := Jvm.Cond.code x code maxLocals ret :: tables_1
/-- a 'code' word, met by the world's own term for the bytes: nothing is compared byte by byte -/
theorem code_word {y : MethodName} {bytes : ByteArray} {mx : Nat} {rt : Option FieldType} {a : Array Value} {s : State} {m : MethodId} {meth : Method} {c : Code} (h1 : s.methodNamed? y = some m) (h2 : s.vm.method? m = some meth) (h3 : meth.code = some c) (h4 : c.code = bytes)
    (h5 : (c.maxLocals == mx && c.exceptionTable.isEmpty && decide (c.maxStack ≤ mostOperands) && decide (meth.sig.returnType = rt) && !meth.locks && decide (parseMethodDescriptor y.desc = some meth.sig)) = true) : (Jvm.Cond.code y bytes mx rt).before a s = true := by
  simp only [Bool.and_eq_true, beq_iff_eq, Bool.not_eq_true', decide_eq_true_eq] at h5
  obtain ⟨⟨⟨⟨⟨g1, g2⟩, g3⟩, g4⟩, g5⟩, g6⟩ := h5
  simp [Cond.before, Cond.holds, Cond.value, h1, h2, h3, h4, g1, g2, g3, g4, g5, g6]
def isCode : Jvm.Cond → Bool
  | .code _ _ _ _ => true
  | _ => false
theorem all_split {L : List Jvm.Cond} {P : Jvm.Cond → Bool} (h1 : L.all (fun c => isCode c || P c) = true) (h2 : ∀ c ∈ L.filter isCode, P c = true) : L.all P = true := by
  refine List.all_eq_true.mpr fun c hc => ?_
  have h := List.all_eq_true.mp h1 c hc
  rcases Bool.eq_false_or_eq_true (isCode c) with hi | hi
  · exact h2 c (List.mem_filter.mpr ⟨hc, hi⟩)
  · simpa [hi] using h
set_option maxRecDepth 65536 in
theorem w_c0 : (Jvm.Cond.code x code maxLocals ret).before args0 about1 = true := code_word (m := ⟨1, 2⟩) (meth := k1m2) (c := k1c2) (by decide +kernel) rfl rfl rfl (by decide +kernel)
set_option maxRecDepth 65536 in
theorem w_c1 : (Jvm.Cond.code ({ cls := "com/example/cross_town/crosstown/solve/NodeHeap", name := "<init>", desc := "(I)V" } : Jvm.MethodName) prog_33_method_1_code (2 : Nat) (Option.none : Option Jvm.ClassFile.FieldType)).before args0 about1 = true := code_word (m := ⟨2, 0⟩) (meth := k2m0) (c := k2c0) (by decide +kernel) rfl rfl rfl (by decide +kernel)
set_option maxRecDepth 65536 in
theorem w_c2 : (Jvm.Cond.code ({ cls := "java/lang/Object", name := "<init>", desc := "()V" } : Jvm.MethodName) object_method_1_code (1 : Nat) (Option.none : Option Jvm.ClassFile.FieldType)).before args0 about1 = true := code_word (m := ⟨0, 0⟩) (meth := k0m0) (c := k0c0) (by decide +kernel) rfl rfl rfl (by decide +kernel)
set_option maxRecDepth 65536 in
theorem w_c3 : (Jvm.Cond.code ({ cls := "java/util/Arrays", name := "fill", desc := "([II)V" } : Jvm.MethodName) jdk_65_method_103_code (4 : Nat) (Option.none : Option Jvm.ClassFile.FieldType)).before args0 about1 = true := code_word (m := ⟨3, 1⟩) (meth := k3m1) (c := k3c1) (by decide +kernel) rfl rfl rfl (by decide +kernel)
set_option maxRecDepth 65536 in
theorem w_c4 : (Jvm.Cond.code ({ cls := "com/example/cross_town/crosstown/solve/NodeHeap", name := "insertOrLower", desc := "(ID)V" } : Jvm.MethodName) prog_33_method_3_code (5 : Nat) (Option.none : Option Jvm.ClassFile.FieldType)).before args0 about1 = true := code_word (m := ⟨2, 2⟩) (meth := k2m2) (c := k2c2) (by decide +kernel) rfl rfl rfl (by decide +kernel)
set_option maxRecDepth 65536 in
theorem w_c5 : (Jvm.Cond.code ({ cls := "com/example/cross_town/crosstown/solve/NodeHeap", name := "siftUp", desc := "(II)V" } : Jvm.MethodName) prog_33_method_5_code (5 : Nat) (Option.none : Option Jvm.ClassFile.FieldType)).before args0 about1 = true := code_word (m := ⟨2, 4⟩) (meth := k2m4) (c := k2c4) (by decide +kernel) rfl rfl rfl (by decide +kernel)
set_option maxRecDepth 65536 in
theorem w_c6 : (Jvm.Cond.code ({ cls := "com/example/cross_town/crosstown/solve/NodeHeap", name := "place", desc := "(II)V" } : Jvm.MethodName) prog_33_method_7_code (3 : Nat) (Option.none : Option Jvm.ClassFile.FieldType)).before args0 about1 = true := code_word (m := ⟨2, 6⟩) (meth := k2m6) (c := k2c6) (by decide +kernel) rfl rfl rfl (by decide +kernel)
set_option maxRecDepth 65536 in
theorem w_c7 : (Jvm.Cond.code ({ cls := "com/example/cross_town/crosstown/solve/NodeHeap", name := "poll", desc := "()I" } : Jvm.MethodName) prog_33_method_4_code (2 : Nat) (Option.some Jvm.ClassFile.FieldType.int)).before args0 about1 = true := code_word (m := ⟨2, 3⟩) (meth := k2m3) (c := k2c3) (by decide +kernel) rfl rfl rfl (by decide +kernel)
set_option maxRecDepth 65536 in
theorem w_c8 : (Jvm.Cond.code ({ cls := "com/example/cross_town/crosstown/solve/NodeHeap", name := "siftDown", desc := "(II)V" } : Jvm.MethodName) prog_33_method_6_code (5 : Nat) (Option.none : Option Jvm.ClassFile.FieldType)).before args0 about1 = true := code_word (m := ⟨2, 5⟩) (meth := k2m5) (c := k2c5) (by decide +kernel) rfl rfl rfl (by decide +kernel)
set_option maxRecDepth 65536 in
theorem w_c9 : (Jvm.Cond.code ({ cls := "com/example/cross_town/crosstown/solve/NodeHeap", name := "isEmpty", desc := "()Z" } : Jvm.MethodName) prog_33_method_2_code (1 : Nat) (Option.some Jvm.ClassFile.FieldType.boolean)).before args0 about1 = true := code_word (m := ⟨2, 1⟩) (meth := k2m1) (c := k2c1) (by decide +kernel) rfl rfl rfl (by decide +kernel)
set_option maxRecDepth 65536 in
theorem w_c10 : (Jvm.Cond.code ({ cls := "com/example/cross_town/crosstown/solve/NodeHeapInsertOrLowerPinLaw", name := "inRange", desc := "(I)Z" } : Jvm.MethodName) method_2_code (1 : Nat) (Option.some Jvm.ClassFile.FieldType.boolean)).before args0 about1 = true := code_word (m := ⟨1, 1⟩) (meth := k1m1) (c := k1c1) (by decide +kernel) rfl rfl rfl (by decide +kernel)
def codes1 : List Jvm.Cond := [Jvm.Cond.code x code maxLocals ret, Jvm.Cond.code ({ cls := "com/example/cross_town/crosstown/solve/NodeHeap", name := "<init>", desc := "(I)V" } : Jvm.MethodName) prog_33_method_1_code (2 : Nat) (Option.none : Option Jvm.ClassFile.FieldType), Jvm.Cond.code ({ cls := "java/lang/Object", name := "<init>", desc := "()V" } : Jvm.MethodName) object_method_1_code (1 : Nat) (Option.none : Option Jvm.ClassFile.FieldType), Jvm.Cond.code ({ cls := "java/util/Arrays", name := "fill", desc := "([II)V" } : Jvm.MethodName) jdk_65_method_103_code (4 : Nat) (Option.none : Option Jvm.ClassFile.FieldType), Jvm.Cond.code ({ cls := "com/example/cross_town/crosstown/solve/NodeHeap", name := "insertOrLower", desc := "(ID)V" } : Jvm.MethodName) prog_33_method_3_code (5 : Nat) (Option.none : Option Jvm.ClassFile.FieldType), Jvm.Cond.code ({ cls := "com/example/cross_town/crosstown/solve/NodeHeap", name := "siftUp", desc := "(II)V" } : Jvm.MethodName) prog_33_method_5_code (5 : Nat) (Option.none : Option Jvm.ClassFile.FieldType), Jvm.Cond.code ({ cls := "com/example/cross_town/crosstown/solve/NodeHeap", name := "place", desc := "(II)V" } : Jvm.MethodName) prog_33_method_7_code (3 : Nat) (Option.none : Option Jvm.ClassFile.FieldType), Jvm.Cond.code ({ cls := "com/example/cross_town/crosstown/solve/NodeHeap", name := "poll", desc := "()I" } : Jvm.MethodName) prog_33_method_4_code (2 : Nat) (Option.some Jvm.ClassFile.FieldType.int), Jvm.Cond.code ({ cls := "com/example/cross_town/crosstown/solve/NodeHeap", name := "siftDown", desc := "(II)V" } : Jvm.MethodName) prog_33_method_6_code (5 : Nat) (Option.none : Option Jvm.ClassFile.FieldType), Jvm.Cond.code ({ cls := "com/example/cross_town/crosstown/solve/NodeHeap", name := "isEmpty", desc := "()Z" } : Jvm.MethodName) prog_33_method_2_code (1 : Nat) (Option.some Jvm.ClassFile.FieldType.boolean), Jvm.Cond.code ({ cls := "com/example/cross_town/crosstown/solve/NodeHeapInsertOrLowerPinLaw", name := "inRange", desc := "(I)Z" } : Jvm.MethodName) method_2_code (1 : Nat) (Option.some Jvm.ClassFile.FieldType.boolean)]
set_option maxRecDepth 65536 in
theorem codes_eq : words1.filter isCode = codes1 := rfl
theorem w_codes : ∀ c ∈ words1.filter isCode, c.before args0 about1 = true := by
  rw [codes_eq]
  intro c hc
  simp only [codes1, List.mem_cons, List.not_mem_nil, or_false] at hc
  rcases hc with rfl | rfl | rfl | rfl | rfl | rfl | rfl | rfl | rfl | rfl | rfl
  · exact w_c0
  · exact w_c1
  · exact w_c2
  · exact w_c3
  · exact w_c4
  · exact w_c5
  · exact w_c6
  · exact w_c7
  · exact w_c8
  · exact w_c9
  · exact w_c10
set_option maxRecDepth 65536 in
theorem w_t1 : (words1.take 24).all (fun c => isCode c || c.before args0 about1) = true := by decide +kernel
set_option maxRecDepth 65536 in
theorem w_t2 : ((words1.drop 24).take 24).all (fun c => isCode c || c.before args0 about1) = true := by decide +kernel
set_option maxRecDepth 65536 in
theorem w_t3 : ((words1.drop 24).drop 24).all (fun c => isCode c || c.before args0 about1) = true := by decide +kernel
theorem w_tables : (allAtoms (Jvm.Cond.code x code maxLocals ret :: tables_1)).before args0 about1 = true := by
  rw [allAtoms_all]
  show words1.all (fun c => c.before args0 about1) = true
  refine all_split ?_ w_codes
  rw [← List.take_append_drop 24 words1, List.all_append, w_t1, ← List.take_append_drop 24 (words1.drop 24), List.all_append, w_t2, w_t3]
  rfl
set_option maxRecDepth 65536 in
theorem w_case : (Jvm.Cond.and given_1 narrow_1).before args0 about1 = true := by decide +kernel
theorem w_applies : (headSpec (Jvm.Cond.code x code maxLocals ret :: tables_1) room_1).applies x e0.platform about1 = true :=
  (Spec.applies_iff w_frames).mpr ⟨w_running, w_runnable, w_alone, w_named, w_hears, w_ripe, w_room, w_tables⟩
theorem atStart : AtStart classFile x code maxLocals ret World_1 tables_1 room_1 Calls_1 rest_1 Pre_1 launch0 p0 e0 about1 theMethod args0 below0 :=
  ⟨lists_1, trivial, launch0.admits_env _ _ _, launch0.least_env, fairChoices_fair.cas, fairChoices_fair.clock, w_frames, w_args, w_heap, w_applies, trivial, trivial, w_case⟩
end start1
theorem witness_1 : WitnessClaimed_1 := ⟨start1.p0, start1.e0, start1.about1, start1.theMethod, start1.args0, start1.below0, start1.atStart⟩
end Jvm.Pilot.@@N@@
