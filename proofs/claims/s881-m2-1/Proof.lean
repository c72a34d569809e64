import JvmDerived
import JvmDerived.Pilot.@@N@@Statement
import JvmDerived.Pilot.@@N@@Code
set_option linter.unusedVariables false
set_option linter.unusedSimpArgs false
namespace Jvm.RoadKit
open Sem ClassFile Op Lib Jvm.Stand Jvm.Free Jvm.LawKit
section New
variable {p : Program} {l : Launch} {e : Env} {R : Room} {s : State} {m : MethodId} {args : Array Value} {below : List Frame} {meth : Method} {c : Code} {T : State} {locs : List Loc} {cells slots : Nat}
theorem retI (X : Stand p l e R s m args below meth c T locs cells slots) (hx : p.tables.exec = Jvm.exec) {pc : Nat} {Ls : Array Slot} {z : Int32} {rest : List Value} (hret : meth.sig.returnType = some .int) (hd : decode c.code pc = .ok (.ireturn, 1)) {fs : List Frame}
    (hl : ∀ (f : JFrame) (acts : List Action), f.method = m → f.locked = none → f.entered = [] → (doReturn e (T.setTop f) acts (some (.int z))).1 = T.setFrames fs) : Steps p.tables e below (T.setTop (mkF m pc Ls (.int z :: rest))) (T.setFrames fs) := by
  have hm' : T.vm.method? m = some meth := X.method'
  have hn : narrow .int (.int z) = .int z := rfl
  show Steps p.tables e below (T.setTop { method := m, pc := pc, locals := Ls, stack := _ :: rest, locked := none }) _
  jvm_step X.here [X.here.top, hx, hd, hm', hret, hn]
  first | (intro acts; rw [hl _ acts rfl rfl rfl]) | rw [hl _ _ rfl rfl rfl]
  exact Steps.refl _
end New
end Jvm.RoadKit
namespace Jvm.Pilot.@@N@@
open Jvm Jvm.ClassFile Sem Op Lib Jvm.Free Jvm.Stand Jvm.LawKit Jvm.RoadKit Bundle Jvm.Pilot.@@N@@.Jvm.D
def own_rem (x y : Int32) : Int32 := x - (x / y) * y
section OwnSteps
variable {tb : Tables} [Ours tb] {e : Env} {below : List Frame} {T target : State} {m : MethodId} {c : Code} {pc : Nat} {ls : Array Slot} {st : List Value}
theorem own_iloadN (h : At T m c below) (hx : tb.exec = Jvm.exec) {k : Fin 4} {v : Int32} (hd : decode c.code pc = .ok (.iload_n k, 1)) (hl : ls[k.val]? = some (.val (.int v))) (hr : Steps tb e below (T.setTop (mkF m (pc + 1) ls (.int v :: st))) target) : Steps tb e below (T.setTop (mkF m pc ls (st))) target := XS.iloadN h hx rfl hd hl hr
theorem own_iload (h : At T m c below) (hx : tb.exec = Jvm.exec) {k : Nat} {v : Int32} (hd : decode c.code pc = .ok (.iload k, 2)) (hl : ls[k]? = some (.val (.int v))) (hr : Steps tb e below (T.setTop (mkF m (pc + 2) ls (.int v :: st))) target) : Steps tb e below (T.setTop (mkF m pc ls (st))) target := XS.iload h hx rfl hd hl hr
theorem own_istoreN (h : At T m c below) (hx : tb.exec = Jvm.exec) {k : Fin 4} {v : Int32} {l' : Array Slot} (hd : decode c.code pc = .ok (.istore_n k, 1)) (hl : storeLocals ls k.val (.int v) = some l') (hr : Steps tb e below (T.setTop (mkF m (pc + 1) l' (st))) target) : Steps tb e below (T.setTop (mkF m pc ls (.int v :: st))) target := XS.istoreN h hx rfl hd rfl hl hr
theorem own_istore (h : At T m c below) (hx : tb.exec = Jvm.exec) {k : Nat} {v : Int32} {l' : Array Slot} (hd : decode c.code pc = .ok (.istore k, 2)) (hl : storeLocals ls k (.int v) = some l') (hr : Steps tb e below (T.setTop (mkF m (pc + 2) l' (st))) target) : Steps tb e below (T.setTop (mkF m pc ls (.int v :: st))) target := XS.istore h hx rfl hd rfl hl hr
theorem own_lloadN (h : At T m c below) (hx : tb.exec = Jvm.exec) {k : Fin 4} {v : Int64} (hd : decode c.code pc = .ok (.lload_n k, 1)) (hl : ls[k.val]? = some (.val (.long v))) (hr : Steps tb e below (T.setTop (mkF m (pc + 1) ls (.long v :: st))) target) : Steps tb e below (T.setTop (mkF m pc ls (st))) target := XS.lloadN h hx rfl hd hl hr
theorem own_lload (h : At T m c below) (hx : tb.exec = Jvm.exec) {k : Nat} {v : Int64} (hd : decode c.code pc = .ok (.lload k, 2)) (hl : ls[k]? = some (.val (.long v))) (hr : Steps tb e below (T.setTop (mkF m (pc + 2) ls (.long v :: st))) target) : Steps tb e below (T.setTop (mkF m pc ls (st))) target := XS.lload h hx rfl hd hl hr
theorem own_lstoreN (h : At T m c below) (hx : tb.exec = Jvm.exec) {k : Fin 4} {v : Int64} {l' : Array Slot} (hd : decode c.code pc = .ok (.lstore_n k, 1)) (hl : storeLocals ls k.val (.long v) = some l') (hr : Steps tb e below (T.setTop (mkF m (pc + 1) l' (st))) target) : Steps tb e below (T.setTop (mkF m pc ls (.long v :: st))) target := XS.lstoreN h hx rfl hd rfl hl hr
theorem own_lstore (h : At T m c below) (hx : tb.exec = Jvm.exec) {k : Nat} {v : Int64} {l' : Array Slot} (hd : decode c.code pc = .ok (.lstore k, 2)) (hl : storeLocals ls k (.long v) = some l') (hr : Steps tb e below (T.setTop (mkF m (pc + 2) l' (st))) target) : Steps tb e below (T.setTop (mkF m pc ls (.long v :: st))) target := XS.lstore h hx rfl hd rfl hl hr
theorem own_dloadN (h : At T m c below) (hx : tb.exec = Jvm.exec) {k : Fin 4} {v : UInt64} (hd : decode c.code pc = .ok (.dload_n k, 1)) (hl : ls[k.val]? = some (.val (.double v))) (hr : Steps tb e below (T.setTop (mkF m (pc + 1) ls (.double v :: st))) target) : Steps tb e below (T.setTop (mkF m pc ls (st))) target := XS.dloadN h hx rfl hd hl hr
theorem own_dload (h : At T m c below) (hx : tb.exec = Jvm.exec) {k : Nat} {v : UInt64} (hd : decode c.code pc = .ok (.dload k, 2)) (hl : ls[k]? = some (.val (.double v))) (hr : Steps tb e below (T.setTop (mkF m (pc + 2) ls (.double v :: st))) target) : Steps tb e below (T.setTop (mkF m pc ls (st))) target := XS.dload h hx rfl hd hl hr
theorem own_dstoreN (h : At T m c below) (hx : tb.exec = Jvm.exec) {k : Fin 4} {v : UInt64} {l' : Array Slot} (hd : decode c.code pc = .ok (.dstore_n k, 1)) (hl : storeLocals ls k.val (.double v) = some l') (hr : Steps tb e below (T.setTop (mkF m (pc + 1) l' (st))) target) : Steps tb e below (T.setTop (mkF m pc ls (.double v :: st))) target := XS.dstoreN h hx rfl hd rfl hl hr
theorem own_dstore (h : At T m c below) (hx : tb.exec = Jvm.exec) {k : Nat} {v : UInt64} {l' : Array Slot} (hd : decode c.code pc = .ok (.dstore k, 2)) (hl : storeLocals ls k (.double v) = some l') (hr : Steps tb e below (T.setTop (mkF m (pc + 2) l' (st))) target) : Steps tb e below (T.setTop (mkF m pc ls (.double v :: st))) target := XS.dstore h hx rfl hd rfl hl hr
theorem own_aloadN (h : At T m c below) (hx : tb.exec = Jvm.exec) {k : Fin 4} {v : Value} (hd : decode c.code pc = .ok (.aload_n k, 1)) (hl : ls[k.val]? = some (.val v)) (hv : v.isRef = true) (hr : Steps tb e below (T.setTop (mkF m (pc + 1) ls (v :: st))) target) : Steps tb e below (T.setTop (mkF m pc ls (st))) target := XS.aloadN h hx rfl hd hl hv hr
theorem own_aload (h : At T m c below) (hx : tb.exec = Jvm.exec) {k : Nat} {v : Value} (hd : decode c.code pc = .ok (.aload k, 2)) (hl : ls[k]? = some (.val v)) (hv : v.isRef = true) (hr : Steps tb e below (T.setTop (mkF m (pc + 2) ls (v :: st))) target) : Steps tb e below (T.setTop (mkF m pc ls (st))) target := XS.aload h hx rfl hd hl hv hr
theorem own_astoreN (h : At T m c below) (hx : tb.exec = Jvm.exec) {k : Fin 4} {v : Value} {l' : Array Slot} (hd : decode c.code pc = .ok (.astore_n k, 1)) (hv : v.isRef = true) (hl : storeLocals ls k.val v = some l') (hr : Steps tb e below (T.setTop (mkF m (pc + 1) l' (st))) target) : Steps tb e below (T.setTop (mkF m pc ls (v :: st))) target := XS.astoreN h hx rfl hd rfl hv hl hr
theorem own_astore (h : At T m c below) (hx : tb.exec = Jvm.exec) {k : Nat} {v : Value} {l' : Array Slot} (hd : decode c.code pc = .ok (.astore k, 2)) (hv : v.isRef = true) (hl : storeLocals ls k v = some l') (hr : Steps tb e below (T.setTop (mkF m (pc + 2) l' (st))) target) : Steps tb e below (T.setTop (mkF m pc ls (v :: st))) target := XS.astore h hx rfl hd rfl hv hl hr
theorem own_iconst (h : At T m c below) (hx : tb.exec = Jvm.exec) {i : Int} (z : Int32) (hd : decode c.code pc = .ok (.iconst i, 1)) (hz : Int32.ofInt i = z) (hr : Steps tb e below (T.setTop (mkF m (pc + 1) ls (.int z :: st))) target) : Steps tb e below (T.setTop (mkF m pc ls st)) target := by
  subst hz; exact XS.iconst h hx rfl hd hr
theorem own_bipush (h : At T m c below) (hx : tb.exec = Jvm.exec) {i : Int} (z : Int32) (hd : decode c.code pc = .ok (.bipush i, 2)) (hz : (Int8.ofInt i).toInt32 = z) (hr : Steps tb e below (T.setTop (mkF m (pc + 2) ls (.int z :: st))) target) : Steps tb e below (T.setTop (mkF m pc ls st)) target := by
  subst hz; exact XS.bipush h hx rfl hd hr
theorem own_sipush (h : At T m c below) (hx : tb.exec = Jvm.exec) {i : Int} (z : Int32) (hd : decode c.code pc = .ok (.sipush i, 3)) (hz : (Int16.ofInt i).toInt32 = z) (hr : Steps tb e below (T.setTop (mkF m (pc + 3) ls (.int z :: st))) target) : Steps tb e below (T.setTop (mkF m pc ls st)) target := by
  subst hz; exact XS.sipush h hx rfl hd hr
theorem own_lconst0 (h : At T m c below) (hx : tb.exec = Jvm.exec) (hd : decode c.code pc = .ok (.lconst 0, 1)) (hr : Steps tb e below (T.setTop (mkF m (pc + 1) ls (.long (0 : Int64) :: st))) target) : Steps tb e below (T.setTop (mkF m pc ls st)) target := XS.lconst h hx rfl hd hr
theorem own_lconst1 (h : At T m c below) (hx : tb.exec = Jvm.exec) (hd : decode c.code pc = .ok (.lconst 1, 1)) (hr : Steps tb e below (T.setTop (mkF m (pc + 1) ls (.long (1 : Int64) :: st))) target) : Steps tb e below (T.setTop (mkF m pc ls st)) target := XS.lconst h hx rfl hd hr
theorem own_aconstNull (h : At T m c below) (hx : tb.exec = Jvm.exec)  (hd : decode c.code pc = .ok (.aconst_null, 1)) (hr : Steps tb e below (T.setTop (mkF m (pc + 1) ls (.null :: st))) target) : Steps tb e below (T.setTop (mkF m pc ls (st))) target := XS.aconstNull h hx rfl hd hr
theorem own_iadd (h : At T m c below) (hx : tb.exec = Jvm.exec) {x y : Int32} (hd : decode c.code pc = .ok (.iadd, 1)) (hr : Steps tb e below (T.setTop (mkF m (pc + 1) ls (.int (x + y) :: st))) target) : Steps tb e below (T.setTop (mkF m pc ls (.int y :: .int x :: st))) target := XS.iadd h hx rfl hd rfl hr
theorem own_isub (h : At T m c below) (hx : tb.exec = Jvm.exec) {x y : Int32} (hd : decode c.code pc = .ok (.isub, 1)) (hr : Steps tb e below (T.setTop (mkF m (pc + 1) ls (.int (x - y) :: st))) target) : Steps tb e below (T.setTop (mkF m pc ls (.int y :: .int x :: st))) target := XS.isub h hx rfl hd rfl hr
theorem own_imul (h : At T m c below) (hx : tb.exec = Jvm.exec) {x y : Int32} (hd : decode c.code pc = .ok (.imul, 1)) (hr : Steps tb e below (T.setTop (mkF m (pc + 1) ls (.int (x * y) :: st))) target) : Steps tb e below (T.setTop (mkF m pc ls (.int y :: .int x :: st))) target := XS.imul h hx rfl hd rfl hr
theorem own_iand (h : At T m c below) (hx : tb.exec = Jvm.exec) {x y : Int32} (hd : decode c.code pc = .ok (.iand, 1)) (hr : Steps tb e below (T.setTop (mkF m (pc + 1) ls (.int (x &&& y) :: st))) target) : Steps tb e below (T.setTop (mkF m pc ls (.int y :: .int x :: st))) target := XS.iand h hx rfl hd rfl hr
theorem own_ior (h : At T m c below) (hx : tb.exec = Jvm.exec) {x y : Int32} (hd : decode c.code pc = .ok (.ior, 1)) (hr : Steps tb e below (T.setTop (mkF m (pc + 1) ls (.int (x ||| y) :: st))) target) : Steps tb e below (T.setTop (mkF m pc ls (.int y :: .int x :: st))) target := XS.ior h hx rfl hd rfl hr
theorem own_ixor (h : At T m c below) (hx : tb.exec = Jvm.exec) {x y : Int32} (hd : decode c.code pc = .ok (.ixor, 1)) (hr : Steps tb e below (T.setTop (mkF m (pc + 1) ls (.int (x ^^^ y) :: st))) target) : Steps tb e below (T.setTop (mkF m pc ls (.int y :: .int x :: st))) target := XS.ixor h hx rfl hd rfl hr
theorem own_idiv (h : At T m c below) (hx : tb.exec = Jvm.exec) {x y : Int32} (hd : decode c.code pc = .ok (.idiv, 1)) (hy : y ≠ 0) (hr : Steps tb e below (T.setTop (mkF m (pc + 1) ls (.int (x / y) :: st))) target) : Steps tb e below (T.setTop (mkF m pc ls (.int y :: .int x :: st))) target := XS.idiv h hx rfl hd rfl hy hr
theorem own_ladd (h : At T m c below) (hx : tb.exec = Jvm.exec) {x y : Int64} (hd : decode c.code pc = .ok (.ladd, 1)) (hr : Steps tb e below (T.setTop (mkF m (pc + 1) ls (.long (x + y) :: st))) target) : Steps tb e below (T.setTop (mkF m pc ls (.long y :: .long x :: st))) target := XS.ladd h hx rfl hd rfl hr
theorem own_lsub (h : At T m c below) (hx : tb.exec = Jvm.exec) {x y : Int64} (hd : decode c.code pc = .ok (.lsub, 1)) (hr : Steps tb e below (T.setTop (mkF m (pc + 1) ls (.long (x - y) :: st))) target) : Steps tb e below (T.setTop (mkF m pc ls (.long y :: .long x :: st))) target := XS.lsub h hx rfl hd rfl hr
theorem own_lmul (h : At T m c below) (hx : tb.exec = Jvm.exec) {x y : Int64} (hd : decode c.code pc = .ok (.lmul, 1)) (hr : Steps tb e below (T.setTop (mkF m (pc + 1) ls (.long (x * y) :: st))) target) : Steps tb e below (T.setTop (mkF m pc ls (.long y :: .long x :: st))) target := XS.lmul h hx rfl hd rfl hr
theorem own_land (h : At T m c below) (hx : tb.exec = Jvm.exec) {x y : Int64} (hd : decode c.code pc = .ok (.land, 1)) (hr : Steps tb e below (T.setTop (mkF m (pc + 1) ls (.long (x &&& y) :: st))) target) : Steps tb e below (T.setTop (mkF m pc ls (.long y :: .long x :: st))) target := XS.land h hx rfl hd rfl hr
theorem own_lor (h : At T m c below) (hx : tb.exec = Jvm.exec) {x y : Int64} (hd : decode c.code pc = .ok (.lor, 1)) (hr : Steps tb e below (T.setTop (mkF m (pc + 1) ls (.long (x ||| y) :: st))) target) : Steps tb e below (T.setTop (mkF m pc ls (.long y :: .long x :: st))) target := XS.lor h hx rfl hd rfl hr
theorem own_lxor (h : At T m c below) (hx : tb.exec = Jvm.exec) {x y : Int64} (hd : decode c.code pc = .ok (.lxor, 1)) (hr : Steps tb e below (T.setTop (mkF m (pc + 1) ls (.long (x ^^^ y) :: st))) target) : Steps tb e below (T.setTop (mkF m pc ls (.long y :: .long x :: st))) target := XS.lxor h hx rfl hd rfl hr
theorem own_ldiv (h : At T m c below) (hx : tb.exec = Jvm.exec) {x y : Int64} (hd : decode c.code pc = .ok (.ldiv, 1)) (hy : y ≠ 0) (hr : Steps tb e below (T.setTop (mkF m (pc + 1) ls (.long (x / y) :: st))) target) : Steps tb e below (T.setTop (mkF m pc ls (.long y :: .long x :: st))) target := XS.ldiv h hx rfl hd rfl hy hr
theorem own_irem (h : At T m c below) (hx : tb.exec = Jvm.exec) {x y : Int32} (hd : decode c.code pc = .ok (.irem, 1)) (hy : y ≠ 0) (hr : Steps tb e below (T.setTop (mkF m (pc + 1) ls (.int (own_rem x y) :: st))) target) : Steps tb e below (T.setTop (mkF m pc ls (.int y :: .int x :: st))) target := XS.irem h hx rfl hd rfl hy hr
theorem own_ishl (h : At T m c below) (hx : tb.exec = Jvm.exec) {x : Int32} {y : Int32} (hd : decode c.code pc = .ok (.ishl, 1)) (hr : Steps tb e below (T.setTop (mkF m (pc + 1) ls (.int (x <<< (y &&& 31)) :: st))) target) : Steps tb e below (T.setTop (mkF m pc ls (.int y :: .int x :: st))) target := XS.ishl h hx rfl hd rfl hr
theorem own_ishr (h : At T m c below) (hx : tb.exec = Jvm.exec) {x : Int32} {y : Int32} (hd : decode c.code pc = .ok (.ishr, 1)) (hr : Steps tb e below (T.setTop (mkF m (pc + 1) ls (.int (x >>> (y &&& 31)) :: st))) target) : Steps tb e below (T.setTop (mkF m pc ls (.int y :: .int x :: st))) target := XS.ishr h hx rfl hd rfl hr
theorem own_iushr (h : At T m c below) (hx : tb.exec = Jvm.exec) {x : Int32} {y : Int32} (hd : decode c.code pc = .ok (.iushr, 1)) (hr : Steps tb e below (T.setTop (mkF m (pc + 1) ls (.int ((x.toUInt32 >>> (y &&& 31).toUInt32).toInt32) :: st))) target) : Steps tb e below (T.setTop (mkF m pc ls (.int y :: .int x :: st))) target := XS.iushr h hx rfl hd rfl hr
theorem own_lshl (h : At T m c below) (hx : tb.exec = Jvm.exec) {x : Int64} {y : Int32} (hd : decode c.code pc = .ok (.lshl, 1)) (hr : Steps tb e below (T.setTop (mkF m (pc + 1) ls (.long (x <<< (y &&& 0x3f).toInt64) :: st))) target) : Steps tb e below (T.setTop (mkF m pc ls (.int y :: .long x :: st))) target := XS.lshl h hx rfl hd rfl hr
theorem own_lshr (h : At T m c below) (hx : tb.exec = Jvm.exec) {x : Int64} {y : Int32} (hd : decode c.code pc = .ok (.lshr, 1)) (hr : Steps tb e below (T.setTop (mkF m (pc + 1) ls (.long (x >>> (y &&& 0x3f).toInt64) :: st))) target) : Steps tb e below (T.setTop (mkF m pc ls (.int y :: .long x :: st))) target := XS.lshr h hx rfl hd rfl hr
theorem own_lushr (h : At T m c below) (hx : tb.exec = Jvm.exec) {x : Int64} {y : Int32} (hd : decode c.code pc = .ok (.lushr, 1)) (hr : Steps tb e below (T.setTop (mkF m (pc + 1) ls (.long ((x.toUInt64 >>> (y &&& 0x3f).toInt64.toUInt64).toInt64) :: st))) target) : Steps tb e below (T.setTop (mkF m pc ls (.int y :: .long x :: st))) target := XS.lushr h hx rfl hd rfl hr
theorem own_ineg (h : At T m c below) (hx : tb.exec = Jvm.exec) {x : Int32} (hd : decode c.code pc = .ok (.ineg, 1)) (hr : Steps tb e below (T.setTop (mkF m (pc + 1) ls (.int (-x) :: st))) target) : Steps tb e below (T.setTop (mkF m pc ls (.int x :: st))) target := XS.ineg h hx rfl hd rfl hr
theorem own_lneg (h : At T m c below) (hx : tb.exec = Jvm.exec) {x : Int64} (hd : decode c.code pc = .ok (.lneg, 1)) (hr : Steps tb e below (T.setTop (mkF m (pc + 1) ls (.long (-x) :: st))) target) : Steps tb e below (T.setTop (mkF m pc ls (.long x :: st))) target := XS.lneg h hx rfl hd rfl hr
theorem own_i2l (h : At T m c below) (hx : tb.exec = Jvm.exec) {x : Int32} (hd : decode c.code pc = .ok (.i2l, 1)) (hr : Steps tb e below (T.setTop (mkF m (pc + 1) ls (.long x.toInt64 :: st))) target) : Steps tb e below (T.setTop (mkF m pc ls (.int x :: st))) target := XS.i2l h hx rfl hd rfl hr
theorem own_l2i (h : At T m c below) (hx : tb.exec = Jvm.exec) {x : Int64} (hd : decode c.code pc = .ok (.l2i, 1)) (hr : Steps tb e below (T.setTop (mkF m (pc + 1) ls (.int x.toInt32 :: st))) target) : Steps tb e below (T.setTop (mkF m pc ls (.long x :: st))) target := XS.l2i h hx rfl hd rfl hr
theorem own_i2b (h : At T m c below) (hx : tb.exec = Jvm.exec) {x : Int32} (hd : decode c.code pc = .ok (.i2b, 1)) (hr : Steps tb e below (T.setTop (mkF m (pc + 1) ls (.int x.toInt8.toInt32 :: st))) target) : Steps tb e below (T.setTop (mkF m pc ls (.int x :: st))) target := XS.i2b h hx rfl hd rfl hr
theorem own_i2s (h : At T m c below) (hx : tb.exec = Jvm.exec) {x : Int32} (hd : decode c.code pc = .ok (.i2s, 1)) (hr : Steps tb e below (T.setTop (mkF m (pc + 1) ls (.int x.toInt16.toInt32 :: st))) target) : Steps tb e below (T.setTop (mkF m pc ls (.int x :: st))) target := XS.i2s h hx rfl hd rfl hr
theorem own_i2c (h : At T m c below) (hx : tb.exec = Jvm.exec) {x : Int32} (hd : decode c.code pc = .ok (.i2c, 1)) (hr : Steps tb e below (T.setTop (mkF m (pc + 1) ls (.int x.toUInt32.toUInt16.toUInt32.toInt32 :: st))) target) : Steps tb e below (T.setTop (mkF m pc ls (.int x :: st))) target := XS.i2c h hx rfl hd rfl hr
theorem own_lcmp (h : At T m c below) (hx : tb.exec = Jvm.exec) {x y : Int64} (hd : decode c.code pc = .ok (.lcmp, 1)) (hr : Steps tb e below (T.setTop (mkF m (pc + 1) ls (.int (lcmpW x y) :: st))) target) : Steps tb e below (T.setTop (mkF m pc ls (.long y :: .long x :: st))) target := XS.lcmp h hx rfl hd rfl hr
theorem own_iinc (h : At T m c below) (hx : tb.exec = Jvm.exec) {k : Nat} {cst : Int} {x : Int32} {l' : Array Slot} (z : Int32) (hd : decode c.code pc = .ok (.iinc k cst, 3)) (hl : ls[k]? = some (.val (.int x))) (hz : Int32.ofInt cst = z) (hl' : storeLocals ls k (.int (x + z)) = some l') (hr : Steps tb e below (T.setTop (mkF m (pc + 3) l' st)) target) : Steps tb e below (T.setTop (mkF m pc ls st)) target := by
  subst hz; exact XS.iinc h hx rfl hd hl hl' hr
theorem own_dup (h : At T m c below) (hx : tb.exec = Jvm.exec) {x : Value} (hd : decode c.code pc = .ok (.dup, 1)) (hc : x.category = 1) (hr : Steps tb e below (T.setTop (mkF m (pc + 1) ls (x :: x :: st))) target) : Steps tb e below (T.setTop (mkF m pc ls (x :: st))) target := XS.dup h hx rfl hd rfl hc hr
theorem own_dupX1 (h : At T m c below) (hx : tb.exec = Jvm.exec) {x y : Value} (hd : decode c.code pc = .ok (.dup_x1, 1)) (hc : x.category = 1) (hc2 : y.category = 1) (hr : Steps tb e below (T.setTop (mkF m (pc + 1) ls (x :: y :: x :: st))) target) : Steps tb e below (T.setTop (mkF m pc ls (x :: y :: st))) target := XS.dupX1 h hx rfl hd rfl hc hc2 hr
theorem own_pop (h : At T m c below) (hx : tb.exec = Jvm.exec) {x : Value} (hd : decode c.code pc = .ok (.pop, 1)) (hc : x.category = 1) (hr : Steps tb e below (T.setTop (mkF m (pc + 1) ls (st))) target) : Steps tb e below (T.setTop (mkF m pc ls (x :: st))) target := XS.pop h hx rfl hd rfl hc hr
theorem own_goto (h : At T m c below) (hx : tb.exec = Jvm.exec) {o : Int} (pc0 pc' : Nat) (hpc : pc = pc0) (hd : decode c.code pc = .ok (.goto o, 3)) (ho : 0 ≤ (pc0 : Int) + o) (hp : ((pc0 : Int) + o).toNat = pc') (hr : Steps tb e below (T.setTop (mkF m pc' ls (st))) target) : Steps tb e below (T.setTop (mkF m pc ls (st))) target := XS.goto h hx rfl hpc hd ho hp hr
theorem own_ifYes (h : At T m c below) (hx : tb.exec = Jvm.exec) {cd : ClassFile.Cond} {o : Int} {x : Int32} (pc0 pc' : Nat) (hpc : pc = pc0) (hd : decode c.code pc = .ok (.ifCond cd o, 3)) (hc : ifCond.holds cd x = true) (ho : 0 ≤ (pc0 : Int) + o) (hp : ((pc0 : Int) + o).toNat = pc') (hr : Steps tb e below (T.setTop (mkF m pc' ls (st))) target) : Steps tb e below (T.setTop (mkF m pc ls (.int x :: st))) target := XS.ifYes h hx rfl hpc hd rfl hc ho hp hr
theorem own_ifNo (h : At T m c below) (hx : tb.exec = Jvm.exec) {cd : ClassFile.Cond} {o : Int} {x : Int32} (hd : decode c.code pc = .ok (.ifCond cd o, 3)) (hc : ifCond.holds cd x = false) (hr : Steps tb e below (T.setTop (mkF m (pc + 3) ls (st))) target) : Steps tb e below (T.setTop (mkF m pc ls (.int x :: st))) target := XS.ifNo h hx rfl hd rfl hc hr
theorem own_icmpYes (h : At T m c below) (hx : tb.exec = Jvm.exec) {cd : ClassFile.Cond} {o : Int} {x y : Int32} (pc0 pc' : Nat) (hpc : pc = pc0) (hd : decode c.code pc = .ok (.if_icmp cd o, 3)) (hc : if_icmp.holds cd x y = true) (ho : 0 ≤ (pc0 : Int) + o) (hp : ((pc0 : Int) + o).toNat = pc') (hr : Steps tb e below (T.setTop (mkF m pc' ls (st))) target) : Steps tb e below (T.setTop (mkF m pc ls (.int y :: .int x :: st))) target := XS.icmpYes h hx rfl hpc hd rfl hc ho hp hr
theorem own_icmpNo (h : At T m c below) (hx : tb.exec = Jvm.exec) {cd : ClassFile.Cond} {o : Int} {x y : Int32} (hd : decode c.code pc = .ok (.if_icmp cd o, 3)) (hc : if_icmp.holds cd x y = false) (hr : Steps tb e below (T.setTop (mkF m (pc + 3) ls (st))) target) : Steps tb e below (T.setTop (mkF m pc ls (.int y :: .int x :: st))) target := XS.icmpNo h hx rfl hd rfl hc hr
theorem own_ifnullYes (h : At T m c below) (hx : tb.exec = Jvm.exec) {o : Int} (pc0 pc' : Nat) (hpc : pc = pc0) (hd : decode c.code pc = .ok (.ifnull o, 3)) (ho : 0 ≤ (pc0 : Int) + o) (hp : ((pc0 : Int) + o).toNat = pc') (hr : Steps tb e below (T.setTop (mkF m pc' ls (st))) target) : Steps tb e below (T.setTop (mkF m pc ls (.null :: st))) target := XS.ifnullYes h hx rfl hpc hd rfl ho hp hr
theorem own_ifnullNo (h : At T m c below) (hx : tb.exec = Jvm.exec) {o : Int} {b : Addr} (hd : decode c.code pc = .ok (.ifnull o, 3)) (hr : Steps tb e below (T.setTop (mkF m (pc + 3) ls (st))) target) : Steps tb e below (T.setTop (mkF m pc ls (.ref b :: st))) target := XS.ifnullNo h hx rfl hd rfl hr
theorem own_ifnonnullYes (h : At T m c below) (hx : tb.exec = Jvm.exec) {o : Int} {b : Addr} (pc0 pc' : Nat) (hpc : pc = pc0) (hd : decode c.code pc = .ok (.ifnonnull o, 3)) (ho : 0 ≤ (pc0 : Int) + o) (hp : ((pc0 : Int) + o).toNat = pc') (hr : Steps tb e below (T.setTop (mkF m pc' ls (st))) target) : Steps tb e below (T.setTop (mkF m pc ls (.ref b :: st))) target := XS.ifnonnullYes h hx rfl hpc hd rfl ho hp hr
theorem own_ifnonnullNo (h : At T m c below) (hx : tb.exec = Jvm.exec) {o : Int} (hd : decode c.code pc = .ok (.ifnonnull o, 3)) (hr : Steps tb e below (T.setTop (mkF m (pc + 3) ls (st))) target) : Steps tb e below (T.setTop (mkF m pc ls (.null :: st))) target := XS.ifnonnullNo h hx rfl hd rfl hr
end OwnSteps
def own_xs (x : Int64) : Int64 := x ^^^ ((x.toUInt64 >>> ((33 : Int32) &&& 0x3f).toInt64.toUInt64).toInt64)
def own_nw (c x : Int64) : Int64 := x * ((2 : Int64) - (c * x))
def own_inv (c : Int64) : Int64 := own_nw c (own_nw c (own_nw c (own_nw c (own_nw c c))))
theorem own_bv (x : BitVec 64) : (x ^^^ x >>> 33) ^^^ ((x ^^^ x >>> 33) >>> 33) = x := by
  have h : x >>> 33 >>> 33 = 0#64 := by
    rw [← BitVec.shiftRight_add]; exact BitVec.ushiftRight_eq_zero (by decide)
  rw [BitVec.ushiftRight_xor_distrib, h]
  simp [BitVec.xor_assoc]
theorem own_xsxs (x : Int64) : own_xs (own_xs x) = x := by
  apply Int64.toBitVec_inj.mp
  exact own_bv x.toBitVec
theorem own_i1 : (-49064778989728563 : Int64) * own_inv (-49064778989728563 : Int64) = 1 := by decide +kernel
theorem own_i2 : (-4265267296055464877 : Int64) * own_inv (-4265267296055464877 : Int64) = 1 := by decide +kernel
def own_mix (s : Int64) : Int64 := own_xs ((own_xs ((own_xs s) * (-49064778989728563 : Int64))) * (-4265267296055464877 : Int64))
def own_un (h : Int64) : Int64 := own_xs ((own_xs ((own_xs h) * own_inv (-4265267296055464877 : Int64))) * own_inv (-49064778989728563 : Int64))
theorem own_unmix (s : Int64) : own_un (own_mix s) = s := by
  unfold own_un own_mix
  rw [own_xsxs, Int64.mul_assoc, own_i2, Int64.mul_one, own_xsxs, Int64.mul_assoc, own_i1, Int64.mul_one, own_xsxs]
theorem own_rem5 (x : Int32) (hx : 0 ≤ x.toInt) : (own_rem x (5 : Int32)).toInt = x.toInt % 5 := by
  have k : (5 : Int32).toInt = 5 := rfl
  have hq := (c_idiv x 5 5 k (by decide)).1 hx
  have hm := c_imul (x / 5) 5
  have hs := c_isub x (x / 5 * 5)
  rw [hq, k] at hm
  have r1 := rng32 x
  have r2 := rng32 (x / 5 * 5)
  have r3 := rng32 (x - x / 5 * 5)
  unfold own_rem
  omega
theorem own_l5 (i : Int32) : (own_rem (i &&& (7 : Int32)) (5 : Int32)) = (0 : Int32) ∨ (own_rem (i &&& (7 : Int32)) (5 : Int32)) = (1 : Int32) ∨ (own_rem (i &&& (7 : Int32)) (5 : Int32)) = (2 : Int32) ∨ (own_rem (i &&& (7 : Int32)) (5 : Int32)) = (3 : Int32) ∨ (own_rem (i &&& (7 : Int32)) (5 : Int32)) = (4 : Int32) := by
  have hm := c_mask i 7 3 (by decide) (by decide)
  have h := own_rem5 (i &&& (7 : Int32)) (by rw [hm]; omega)
  have k0 : (0 : Int32).toInt = 0 := rfl
  have k1 : (1 : Int32).toInt = 1 := rfl
  have k2 : (2 : Int32).toInt = 2 := rfl
  have k3 : (3 : Int32).toInt = 3 := rfl
  have k4 : (4 : Int32).toInt = 4 := rfl
  simp only [← Int32.toInt_inj, k0, k1, k2, k3, k4]
  omega
theorem own_o2 (i : Int32) : (((i.toUInt32 >>> ((8 : Int32) &&& 31).toUInt32).toInt32) &&& (1 : Int32)) = (0 : Int32) ∨ (((i.toUInt32 >>> ((8 : Int32) &&& 31).toUInt32).toInt32) &&& (1 : Int32)) = (1 : Int32) := by
  have hm := c_mask ((i.toUInt32 >>> ((8 : Int32) &&& 31).toUInt32).toInt32) 1 1 (by decide) (by decide)
  have k0 : (0 : Int32).toInt = 0 := rfl
  have k1 : (1 : Int32).toInt = 1 := rfl
  simp only [← Int32.toInt_inj, k0, k1]
  omega
theorem ef_rm1 (m : MethodId) (x0 : Int64) : entryFrame m #[(.long x0)] 4 = mkF m 0 #[.val (.long x0), .second, .unset, .unset] [] := by first | (simp [entryFrame, mkF, argsToLocals, Value.category]; done) | rfl
theorem pn_com_example_naqsh_naqsh_mining_TransactionSetsFingerprintPinLaw : plainName "com/example/naqsh/naqsh/mining/TransactionSetsFingerprintPinLaw" = true := by first | (simp [plainName, overriddenIn]; done) | decide +kernel
def Q1 (Z : State) (q1 : Int64) (h0 : Heap) (n0 : Nat) (v : Option Value) (h : Heap) (L : List Loc) : Prop := v = some (.long (own_inv q1)) ∧ Fr n0 L ∧ h = h0
theorem d_method_2_code_0 : decode method_2_code 0 = .ok (.lload_n 0, 1) := by decide +kernel
theorem d_method_2_code_1 : decode method_2_code 1 = .ok (.lstore_n 2, 1) := by decide +kernel
theorem d_method_2_code_2 : decode method_2_code 2 = .ok (.lload_n 2, 1) := by decide +kernel
theorem d_method_2_code_3 : decode method_2_code 3 = .ok (.ldc2_w 7, 3) := by decide +kernel
theorem d_method_2_code_6 : decode method_2_code 6 = .ok (.lload_n 0, 1) := by decide +kernel
theorem d_method_2_code_7 : decode method_2_code 7 = .ok (.lload_n 2, 1) := by decide +kernel
theorem d_method_2_code_8 : decode method_2_code 8 = .ok (.lmul, 1) := by decide +kernel
theorem d_method_2_code_9 : decode method_2_code 9 = .ok (.lsub, 1) := by decide +kernel
theorem d_method_2_code_10 : decode method_2_code 10 = .ok (.lmul, 1) := by decide +kernel
theorem d_method_2_code_11 : decode method_2_code 11 = .ok (.lstore_n 2, 1) := by decide +kernel
theorem d_method_2_code_12 : decode method_2_code 12 = .ok (.lload_n 2, 1) := by decide +kernel
theorem d_method_2_code_13 : decode method_2_code 13 = .ok (.ldc2_w 7, 3) := by decide +kernel
theorem d_method_2_code_16 : decode method_2_code 16 = .ok (.lload_n 0, 1) := by decide +kernel
theorem d_method_2_code_17 : decode method_2_code 17 = .ok (.lload_n 2, 1) := by decide +kernel
theorem d_method_2_code_18 : decode method_2_code 18 = .ok (.lmul, 1) := by decide +kernel
theorem d_method_2_code_19 : decode method_2_code 19 = .ok (.lsub, 1) := by decide +kernel
theorem d_method_2_code_20 : decode method_2_code 20 = .ok (.lmul, 1) := by decide +kernel
theorem d_method_2_code_21 : decode method_2_code 21 = .ok (.lstore_n 2, 1) := by decide +kernel
theorem d_method_2_code_22 : decode method_2_code 22 = .ok (.lload_n 2, 1) := by decide +kernel
theorem d_method_2_code_23 : decode method_2_code 23 = .ok (.ldc2_w 7, 3) := by decide +kernel
theorem d_method_2_code_26 : decode method_2_code 26 = .ok (.lload_n 0, 1) := by decide +kernel
theorem d_method_2_code_27 : decode method_2_code 27 = .ok (.lload_n 2, 1) := by decide +kernel
theorem d_method_2_code_28 : decode method_2_code 28 = .ok (.lmul, 1) := by decide +kernel
theorem d_method_2_code_29 : decode method_2_code 29 = .ok (.lsub, 1) := by decide +kernel
theorem d_method_2_code_30 : decode method_2_code 30 = .ok (.lmul, 1) := by decide +kernel
theorem d_method_2_code_31 : decode method_2_code 31 = .ok (.lstore_n 2, 1) := by decide +kernel
theorem d_method_2_code_32 : decode method_2_code 32 = .ok (.lload_n 2, 1) := by decide +kernel
theorem d_method_2_code_33 : decode method_2_code 33 = .ok (.ldc2_w 7, 3) := by decide +kernel
theorem d_method_2_code_36 : decode method_2_code 36 = .ok (.lload_n 0, 1) := by decide +kernel
theorem d_method_2_code_37 : decode method_2_code 37 = .ok (.lload_n 2, 1) := by decide +kernel
theorem d_method_2_code_38 : decode method_2_code 38 = .ok (.lmul, 1) := by decide +kernel
theorem d_method_2_code_39 : decode method_2_code 39 = .ok (.lsub, 1) := by decide +kernel
theorem d_method_2_code_40 : decode method_2_code 40 = .ok (.lmul, 1) := by decide +kernel
theorem d_method_2_code_41 : decode method_2_code 41 = .ok (.lstore_n 2, 1) := by decide +kernel
theorem d_method_2_code_42 : decode method_2_code 42 = .ok (.lload_n 2, 1) := by decide +kernel
theorem d_method_2_code_43 : decode method_2_code 43 = .ok (.ldc2_w 7, 3) := by decide +kernel
theorem d_method_2_code_46 : decode method_2_code 46 = .ok (.lload_n 0, 1) := by decide +kernel
theorem d_method_2_code_47 : decode method_2_code 47 = .ok (.lload_n 2, 1) := by decide +kernel
theorem d_method_2_code_48 : decode method_2_code 48 = .ok (.lmul, 1) := by decide +kernel
theorem d_method_2_code_49 : decode method_2_code 49 = .ok (.lsub, 1) := by decide +kernel
theorem d_method_2_code_50 : decode method_2_code 50 = .ok (.lmul, 1) := by decide +kernel
theorem d_method_2_code_51 : decode method_2_code 51 = .ok (.lstore_n 2, 1) := by decide +kernel
theorem d_method_2_code_52 : decode method_2_code 52 = .ok (.lload_n 2, 1) := by decide +kernel
theorem d_method_2_code_53 : decode method_2_code 53 = .ok (.lreturn, 1) := by decide +kernel
set_option maxRecDepth 65536 in
set_option maxHeartbeats 40000000 in
theorem rm1 (l : Launch) (Z : State) (a0 : Array Value) (hw : ∀ d ∈ tables_1, d.before a0 Z = true) (ws : List Jvm.Cond) (q1 : Int64) (h0 : Heap) (n0 : Nat) (Z0 : n0 ≤ h0.size) :
    MetFree l (⟨"com/example/naqsh/naqsh/mining/TransactionSetsFingerprintPinLaw", "inverse", "(J)J"⟩ : MethodName) (head1 (Jvm.Cond.code (⟨"com/example/naqsh/naqsh/mining/TransactionSetsFingerprintPinLaw", "inverse", "(J)J"⟩ : MethodName) method_2_code 4 (some .long) :: ws) ({ frames := 0, cells := 0, slots := 0, locals := 0 } : Room)) (fun a U => a = #[(.long q1)] ∧ Z.Warmed39 U.vm ∧ U.heap = h0) (fun _ _ _ _ _ => True) (fun _ U o U' => ∃ v L, o = .returned v ∧ Q1 Z q1 h0 n0 v U'.heap L ∧ FrameEnd U o U' L ({ frames := 0, cells := 0, slots := 0, locals := 0 } : Room).cells ({ frames := 0, cells := 0, slots := 0, locals := 0 } : Room).slots) := by
  refine MetFree.of_bodySF (plainFor_of_name pn_com_example_naqsh_naqsh_mining_TransactionSetsFingerprintPinLaw) hisR ?_
  intro p e s m args below meth c s₁ Bd hml0 hP hK
  obtain ⟨rfl, hZ, hh⟩ := hP
  have hx := Bd.exec
  have hby := Bd.bytes
  have hml : c.maxLocals = 4 := hml0
  have hown : s.vm.findClass "com/example/naqsh/naqsh/mining/TransactionSetsFingerprintPinLaw" = some m.cls := findClass_of_methodNamed Bd.named
  have hnm := (name_of_methodNamed Bd.named Bd.method).1
  have X0 : Stand p l e ({ frames := 0, cells := 0, slots := 0, locals := 0 } : Room) s m #[(.long q1)] below meth c s₁ [] 0 0 := Stand.of_body Bd
  have e0 : s₁.heap = h0 := by rw [← hh, Bd.state]; rfl
  have N0 := Fr.nil n0
  have pre0 : ∀ tG, Steps p.tables e below (s₁.setTop (mkF m 0 #[.val (.long q1), .second, .unset, .unset] [])) tG → Steps p.tables e below (s₁.setTop (entryFrame m #[(.long q1)] 4)) tG := fun tG kG => castTop (ef_rm1 m q1) kG
  obtain ⟨fs, hr, hrun, hended, hW, hsame⟩ := X0.leave (v := some (.long (own_nw q1 (own_nw q1 (own_nw q1 (own_nw q1 (own_nw q1 q1))))))) (fun h => by rw [Bd.returns] at h; cases h)
  refine ⟨_, _, pre0 _ ?_, hrun, hended, _, _, rfl, ?_, ⟨_, rfl⟩, hW, hsame.mono (by decide) (by decide)⟩
  · refine own_lloadN X0.here hx (hb hby d_method_2_code_0) rfl ?_
    refine own_lstoreN X0.here hx (hb hby d_method_2_code_1) (l' := #[.val (.long q1), .second, .val (.long q1), .second]) rfl ?_
    refine own_lloadN X0.here hx (hb hby d_method_2_code_2) rfl ?_
    refine X0.ldc2Long hx hown (mvT hZ (hw _ (List.mem_of_getElem? (i := 2) rfl))) (g := (mkF m 3 #[.val (.long q1), .second, .val (.long q1), .second] [(.long q1)])) rfl (hb hby d_method_2_code_3) _ ?_
    show Steps p.tables e below (s₁.setTop (mkF m 6 #[.val (.long q1), .second, .val (.long q1), .second] [(.long 2), (.long q1)])) _
    refine own_lloadN X0.here hx (hb hby d_method_2_code_6) rfl ?_
    refine own_lloadN X0.here hx (hb hby d_method_2_code_7) rfl ?_
    refine own_lmul X0.here hx (hb hby d_method_2_code_8) ?_
    refine own_lsub X0.here hx (hb hby d_method_2_code_9) ?_
    refine own_lmul X0.here hx (hb hby d_method_2_code_10) ?_
    show Steps p.tables e below (s₁.setTop (mkF m 11 #[.val (.long q1), .second, .val (.long q1), .second] [(.long (own_nw q1 q1))])) _
    refine own_lstoreN X0.here hx (hb hby d_method_2_code_11) (l' := #[.val (.long q1), .second, .val (.long (own_nw q1 q1)), .second]) rfl ?_
    refine own_lloadN X0.here hx (hb hby d_method_2_code_12) rfl ?_
    refine X0.ldc2Long hx hown (mvT hZ (hw _ (List.mem_of_getElem? (i := 2) rfl))) (g := (mkF m 13 #[.val (.long q1), .second, .val (.long (own_nw q1 q1)), .second] [(.long (own_nw q1 q1))])) rfl (hb hby d_method_2_code_13) _ ?_
    show Steps p.tables e below (s₁.setTop (mkF m 16 #[.val (.long q1), .second, .val (.long (own_nw q1 q1)), .second] [(.long 2), (.long (own_nw q1 q1))])) _
    refine own_lloadN X0.here hx (hb hby d_method_2_code_16) rfl ?_
    refine own_lloadN X0.here hx (hb hby d_method_2_code_17) rfl ?_
    refine own_lmul X0.here hx (hb hby d_method_2_code_18) ?_
    refine own_lsub X0.here hx (hb hby d_method_2_code_19) ?_
    refine own_lmul X0.here hx (hb hby d_method_2_code_20) ?_
    show Steps p.tables e below (s₁.setTop (mkF m 21 #[.val (.long q1), .second, .val (.long (own_nw q1 q1)), .second] [(.long (own_nw q1 (own_nw q1 q1)))])) _
    refine own_lstoreN X0.here hx (hb hby d_method_2_code_21) (l' := #[.val (.long q1), .second, .val (.long (own_nw q1 (own_nw q1 q1))), .second]) rfl ?_
    refine own_lloadN X0.here hx (hb hby d_method_2_code_22) rfl ?_
    refine X0.ldc2Long hx hown (mvT hZ (hw _ (List.mem_of_getElem? (i := 2) rfl))) (g := (mkF m 23 #[.val (.long q1), .second, .val (.long (own_nw q1 (own_nw q1 q1))), .second] [(.long (own_nw q1 (own_nw q1 q1)))])) rfl (hb hby d_method_2_code_23) _ ?_
    show Steps p.tables e below (s₁.setTop (mkF m 26 #[.val (.long q1), .second, .val (.long (own_nw q1 (own_nw q1 q1))), .second] [(.long 2), (.long (own_nw q1 (own_nw q1 q1)))])) _
    refine own_lloadN X0.here hx (hb hby d_method_2_code_26) rfl ?_
    refine own_lloadN X0.here hx (hb hby d_method_2_code_27) rfl ?_
    refine own_lmul X0.here hx (hb hby d_method_2_code_28) ?_
    refine own_lsub X0.here hx (hb hby d_method_2_code_29) ?_
    refine own_lmul X0.here hx (hb hby d_method_2_code_30) ?_
    show Steps p.tables e below (s₁.setTop (mkF m 31 #[.val (.long q1), .second, .val (.long (own_nw q1 (own_nw q1 q1))), .second] [(.long (own_nw q1 (own_nw q1 (own_nw q1 q1))))])) _
    refine own_lstoreN X0.here hx (hb hby d_method_2_code_31) (l' := #[.val (.long q1), .second, .val (.long (own_nw q1 (own_nw q1 (own_nw q1 q1)))), .second]) rfl ?_
    refine own_lloadN X0.here hx (hb hby d_method_2_code_32) rfl ?_
    refine X0.ldc2Long hx hown (mvT hZ (hw _ (List.mem_of_getElem? (i := 2) rfl))) (g := (mkF m 33 #[.val (.long q1), .second, .val (.long (own_nw q1 (own_nw q1 (own_nw q1 q1)))), .second] [(.long (own_nw q1 (own_nw q1 (own_nw q1 q1))))])) rfl (hb hby d_method_2_code_33) _ ?_
    show Steps p.tables e below (s₁.setTop (mkF m 36 #[.val (.long q1), .second, .val (.long (own_nw q1 (own_nw q1 (own_nw q1 q1)))), .second] [(.long 2), (.long (own_nw q1 (own_nw q1 (own_nw q1 q1))))])) _
    refine own_lloadN X0.here hx (hb hby d_method_2_code_36) rfl ?_
    refine own_lloadN X0.here hx (hb hby d_method_2_code_37) rfl ?_
    refine own_lmul X0.here hx (hb hby d_method_2_code_38) ?_
    refine own_lsub X0.here hx (hb hby d_method_2_code_39) ?_
    refine own_lmul X0.here hx (hb hby d_method_2_code_40) ?_
    show Steps p.tables e below (s₁.setTop (mkF m 41 #[.val (.long q1), .second, .val (.long (own_nw q1 (own_nw q1 (own_nw q1 q1)))), .second] [(.long (own_nw q1 (own_nw q1 (own_nw q1 (own_nw q1 q1)))))])) _
    refine own_lstoreN X0.here hx (hb hby d_method_2_code_41) (l' := #[.val (.long q1), .second, .val (.long (own_nw q1 (own_nw q1 (own_nw q1 (own_nw q1 q1))))), .second]) rfl ?_
    refine own_lloadN X0.here hx (hb hby d_method_2_code_42) rfl ?_
    refine X0.ldc2Long hx hown (mvT hZ (hw _ (List.mem_of_getElem? (i := 2) rfl))) (g := (mkF m 43 #[.val (.long q1), .second, .val (.long (own_nw q1 (own_nw q1 (own_nw q1 (own_nw q1 q1))))), .second] [(.long (own_nw q1 (own_nw q1 (own_nw q1 (own_nw q1 q1)))))])) rfl (hb hby d_method_2_code_43) _ ?_
    show Steps p.tables e below (s₁.setTop (mkF m 46 #[.val (.long q1), .second, .val (.long (own_nw q1 (own_nw q1 (own_nw q1 (own_nw q1 q1))))), .second] [(.long 2), (.long (own_nw q1 (own_nw q1 (own_nw q1 (own_nw q1 q1)))))])) _
    refine own_lloadN X0.here hx (hb hby d_method_2_code_46) rfl ?_
    refine own_lloadN X0.here hx (hb hby d_method_2_code_47) rfl ?_
    refine own_lmul X0.here hx (hb hby d_method_2_code_48) ?_
    refine own_lsub X0.here hx (hb hby d_method_2_code_49) ?_
    refine own_lmul X0.here hx (hb hby d_method_2_code_50) ?_
    show Steps p.tables e below (s₁.setTop (mkF m 51 #[.val (.long q1), .second, .val (.long (own_nw q1 (own_nw q1 (own_nw q1 (own_nw q1 q1))))), .second] [(.long (own_nw q1 (own_nw q1 (own_nw q1 (own_nw q1 (own_nw q1 q1))))))])) _
    refine own_lstoreN X0.here hx (hb hby d_method_2_code_51) (l' := #[.val (.long q1), .second, .val (.long (own_nw q1 (own_nw q1 (own_nw q1 (own_nw q1 (own_nw q1 q1)))))), .second]) rfl ?_
    refine own_lloadN X0.here hx (hb hby d_method_2_code_52) rfl ?_
    show Steps p.tables e below (s₁.setTop (mkF m 53 #[.val (.long q1), .second, .val (.long (own_nw q1 (own_nw q1 (own_nw q1 (own_nw q1 (own_nw q1 q1)))))), .second] [(.long (own_nw q1 (own_nw q1 (own_nw q1 (own_nw q1 (own_nw q1 q1))))))])) _
    exact X0.lreturnOut hx Bd.returns (hb hby d_method_2_code_53) hr
  · show Q1 Z q1 h0 n0 _ s₁.heap _
    rw [e0]
    exact ⟨rfl, N0, rfl⟩
theorem ef_rm2 (m : MethodId) (x0 : Int64) : entryFrame m #[(.long x0)] 4 = mkF m 0 #[.val (.long x0), .second, .unset, .unset] [] := by first | (simp [entryFrame, mkF, argsToLocals, Value.category]; done) | rfl
def Q2 (Z : State) (q1 : Int64) (h0 : Heap) (n0 : Nat) (v : Option Value) (h : Heap) (L : List Loc) : Prop := v = some (.long (own_un q1)) ∧ Fr n0 L ∧ h = h0
theorem d_method_3_code_0 : decode method_3_code 0 = .ok (.lload_n 0, 1) := by decide +kernel
theorem d_method_3_code_1 : decode method_3_code 1 = .ok (.lload_n 0, 1) := by decide +kernel
theorem d_method_3_code_2 : decode method_3_code 2 = .ok (.bipush 33, 2) := by decide +kernel
theorem d_method_3_code_4 : decode method_3_code 4 = .ok (.lushr, 1) := by decide +kernel
theorem d_method_3_code_5 : decode method_3_code 5 = .ok (.lxor, 1) := by decide +kernel
theorem d_method_3_code_6 : decode method_3_code 6 = .ok (.lstore_n 2, 1) := by decide +kernel
theorem d_method_3_code_7 : decode method_3_code 7 = .ok (.lload_n 2, 1) := by decide +kernel
theorem d_method_3_code_8 : decode method_3_code 8 = .ok (.ldc2_w 9, 3) := by decide +kernel
theorem d_method_3_code_11 : decode method_3_code 11 = .ok (.invokestatic 11, 3) := by decide +kernel
theorem pd_28J29J : parseMethodDescriptor "(J)J" = some ⟨[.long], some .long⟩ := by decide +kernel
theorem d_method_3_code_14 : decode method_3_code 14 = .ok (.lmul, 1) := by decide +kernel
theorem d_method_3_code_15 : decode method_3_code 15 = .ok (.lstore_n 2, 1) := by decide +kernel
theorem d_method_3_code_16 : decode method_3_code 16 = .ok (.lload_n 2, 1) := by decide +kernel
theorem d_method_3_code_17 : decode method_3_code 17 = .ok (.lload_n 2, 1) := by decide +kernel
theorem d_method_3_code_18 : decode method_3_code 18 = .ok (.bipush 33, 2) := by decide +kernel
theorem d_method_3_code_20 : decode method_3_code 20 = .ok (.lushr, 1) := by decide +kernel
theorem d_method_3_code_21 : decode method_3_code 21 = .ok (.lxor, 1) := by decide +kernel
theorem d_method_3_code_22 : decode method_3_code 22 = .ok (.lstore_n 2, 1) := by decide +kernel
theorem d_method_3_code_23 : decode method_3_code 23 = .ok (.lload_n 2, 1) := by decide +kernel
theorem d_method_3_code_24 : decode method_3_code 24 = .ok (.ldc2_w 17, 3) := by decide +kernel
theorem d_method_3_code_27 : decode method_3_code 27 = .ok (.invokestatic 11, 3) := by decide +kernel
theorem d_method_3_code_30 : decode method_3_code 30 = .ok (.lmul, 1) := by decide +kernel
theorem d_method_3_code_31 : decode method_3_code 31 = .ok (.lstore_n 2, 1) := by decide +kernel
theorem d_method_3_code_32 : decode method_3_code 32 = .ok (.lload_n 2, 1) := by decide +kernel
theorem d_method_3_code_33 : decode method_3_code 33 = .ok (.lload_n 2, 1) := by decide +kernel
theorem d_method_3_code_34 : decode method_3_code 34 = .ok (.bipush 33, 2) := by decide +kernel
theorem d_method_3_code_36 : decode method_3_code 36 = .ok (.lushr, 1) := by decide +kernel
theorem d_method_3_code_37 : decode method_3_code 37 = .ok (.lxor, 1) := by decide +kernel
theorem d_method_3_code_38 : decode method_3_code 38 = .ok (.lstore_n 2, 1) := by decide +kernel
theorem d_method_3_code_39 : decode method_3_code 39 = .ok (.lload_n 2, 1) := by decide +kernel
theorem d_method_3_code_40 : decode method_3_code 40 = .ok (.lreturn, 1) := by decide +kernel
set_option maxRecDepth 65536 in
set_option maxHeartbeats 40000000 in
theorem rm2 (l : Launch) (Z : State) (a0 : Array Value) (hw : ∀ d ∈ tables_1, d.before a0 Z = true) (ws : List Jvm.Cond) (q1 : Int64) (h0 : Heap) (n0 : Nat) (Z0 : n0 ≤ h0.size) :
    MetFree l (⟨"com/example/naqsh/naqsh/mining/TransactionSetsFingerprintPinLaw", "unmix", "(J)J"⟩ : MethodName) (head1 (Jvm.Cond.code (⟨"com/example/naqsh/naqsh/mining/TransactionSetsFingerprintPinLaw", "unmix", "(J)J"⟩ : MethodName) method_3_code 4 (some .long) :: ws) ({ frames := 1, cells := 0, slots := 0, locals := 17 } : Room)) (fun a U => a = #[(.long q1)] ∧ Z.Warmed39 U.vm ∧ U.heap = h0) (fun _ _ _ _ _ => True) (fun _ U o U' => ∃ v L, o = .returned v ∧ Q2 Z q1 h0 n0 v U'.heap L ∧ FrameEnd U o U' L ({ frames := 1, cells := 0, slots := 0, locals := 17 } : Room).cells ({ frames := 1, cells := 0, slots := 0, locals := 17 } : Room).slots) := by
  refine MetFree.of_bodySF (plainFor_of_name pn_com_example_naqsh_naqsh_mining_TransactionSetsFingerprintPinLaw) hisR ?_
  intro p e s m args below meth c s₁ Bd hml0 hP hK
  obtain ⟨rfl, hZ, hh⟩ := hP
  have hx := Bd.exec
  have hby := Bd.bytes
  have hml : c.maxLocals = 4 := hml0
  have hown : s.vm.findClass "com/example/naqsh/naqsh/mining/TransactionSetsFingerprintPinLaw" = some m.cls := findClass_of_methodNamed Bd.named
  have hnm := (name_of_methodNamed Bd.named Bd.method).1
  have X0 : Stand p l e ({ frames := 1, cells := 0, slots := 0, locals := 17 } : Room) s m #[(.long q1)] below meth c s₁ [] 0 0 := Stand.of_body Bd
  have e0 : s₁.heap = h0 := by rw [← hh, Bd.state]; rfl
  have N0 := Fr.nil n0
  have pre0 : ∀ tG, Steps p.tables e below (s₁.setTop (mkF m 0 #[.val (.long q1), .second, .unset, .unset] [])) tG → Steps p.tables e below (s₁.setTop (entryFrame m #[(.long q1)] 4)) tG := fun tG kG => castTop (ef_rm2 m q1) kG
  obtain ⟨_, _, ⟨T1, L1, k1, n1⟩, -, X1, ⟨Lc1, hQ1, l1, y1, z1⟩, st1⟩ := Jvm.LawKit.callS X0 hx (y := (⟨"com/example/naqsh/naqsh/mining/TransactionSetsFingerprintPinLaw", "inverse", "(J)J"⟩ : MethodName)) hown (mvT hZ (hw _ (List.mem_of_getElem? (i := 16) rfl))) (mvT hZ (hw _ (List.mem_of_getElem? (i := 17) rfl))) (mvT hZ (hw _ (List.mem_of_getElem? (i := 13) rfl))) (mvT hZ (hw _ (List.mem_of_getElem? (i := 18) rfl))) (by decide) (backOf (W := 2) (rm1 l Z a0 hw [] (-4265267296055464877 : Int64) h0 n0 Z0) hZ (hw _ (List.mem_of_getElem? (i := 18) rfl)) (hw _ (List.mem_of_getElem? (i := 13) rfl)) (by decide) (by decide)) (g := (mkF m 11 #[.val (.long q1), .second, .val (.long (own_xs q1)), .second] [(.long (-4265267296055464877)), (.long (own_xs q1))])) rfl (by rw [hml]; rfl) (argsL := [(.long (-4265267296055464877))]) (rest := [(.long (own_xs q1))]) (lenOf pd_28J29J rfl) rfl (by show 2 * 0 + _ ≤ _; exact Nat.le_of_eq rfl) (hb hby d_method_3_code_11) (fun _ _ => ⟨rfl, e0, (by decide : 0 + 0 ≤ _), (by decide : 0 + 0 ≤ _)⟩)
  dsimp only [Pt.U, Pt.locs, Pt.cells, Pt.slots] at X1 l1 y1 z1 st1 hQ1
  subst l1 y1 z1
  obtain ⟨rfl, N1q, e1⟩ := hQ1
  have N1 := Fr.app N0 N1q
  obtain ⟨_, _, ⟨T2, L2, k2, n2⟩, -, X2, ⟨Lc2, hQ2, l2, y2, z2⟩, st2⟩ := Jvm.LawKit.callS X1 hx (y := (⟨"com/example/naqsh/naqsh/mining/TransactionSetsFingerprintPinLaw", "inverse", "(J)J"⟩ : MethodName)) hown (mvT hZ (hw _ (List.mem_of_getElem? (i := 16) rfl))) (mvT hZ (hw _ (List.mem_of_getElem? (i := 17) rfl))) (mvT hZ (hw _ (List.mem_of_getElem? (i := 13) rfl))) (mvT hZ (hw _ (List.mem_of_getElem? (i := 18) rfl))) (by decide) (backOf (W := 2) (rm1 l Z a0 hw [] (-49064778989728563 : Int64) h0 n0 Z0) hZ (hw _ (List.mem_of_getElem? (i := 18) rfl)) (hw _ (List.mem_of_getElem? (i := 13) rfl)) (by decide) (by decide)) (g := (mkF m 27 #[.val (.long q1), .second, .val (.long (own_xs ((own_xs q1) * (own_inv (-4265267296055464877 : Int64))))), .second] [(.long (-49064778989728563)), (.long (own_xs ((own_xs q1) * (own_inv (-4265267296055464877 : Int64)))))])) rfl (by rw [hml]; rfl) (argsL := [(.long (-49064778989728563))]) (rest := [(.long (own_xs ((own_xs q1) * (own_inv (-4265267296055464877 : Int64)))))]) (lenOf pd_28J29J rfl) rfl (by show 2 * 0 + _ ≤ _; exact Nat.le_of_eq rfl) (hb hby d_method_3_code_27) (fun _ _ => ⟨rfl, e1, (by decide : 0 + 0 ≤ _), (by decide : 0 + 0 ≤ _)⟩)
  dsimp only [Pt.U, Pt.locs, Pt.cells, Pt.slots] at X2 l2 y2 z2 st2 hQ2
  subst l2 y2 z2
  obtain ⟨rfl, N2q, e2⟩ := hQ2
  have N2 := Fr.app N1 N2q
  obtain ⟨fs, hr, hrun, hended, hW, hsame⟩ := X2.leave (v := some (.long (own_xs ((own_xs ((own_xs q1) * (own_inv (-4265267296055464877 : Int64)))) * (own_inv (-49064778989728563 : Int64)))))) (fun h => by rw [Bd.returns] at h; cases h)
  refine ⟨_, _, pre0 _ ?_, hrun, hended, _, _, rfl, ?_, ⟨_, rfl⟩, hW, hsame.mono (by decide) (by decide)⟩
  · refine own_lloadN X0.here hx (hb hby d_method_3_code_0) rfl ?_
    refine own_lloadN X0.here hx (hb hby d_method_3_code_1) rfl ?_
    refine own_bipush X0.here hx (33 : Int32) (hb hby d_method_3_code_2) rfl ?_
    refine own_lushr X0.here hx (hb hby d_method_3_code_4) ?_
    refine own_lxor X0.here hx (hb hby d_method_3_code_5) ?_
    show Steps p.tables e below (s₁.setTop (mkF m 6 #[.val (.long q1), .second, .unset, .unset] [(.long (own_xs q1))])) _
    refine own_lstoreN X0.here hx (hb hby d_method_3_code_6) (l' := #[.val (.long q1), .second, .val (.long (own_xs q1)), .second]) rfl ?_
    refine own_lloadN X0.here hx (hb hby d_method_3_code_7) rfl ?_
    refine X0.ldc2Long hx hown (mvT hZ (hw _ (List.mem_of_getElem? (i := 15) rfl))) (g := (mkF m 8 #[.val (.long q1), .second, .val (.long (own_xs q1)), .second] [(.long (own_xs q1))])) rfl (hb hby d_method_3_code_8) _ ?_
    show Steps p.tables e below (s₁.setTop (mkF m 11 #[.val (.long q1), .second, .val (.long (own_xs q1)), .second] [(.long (-4265267296055464877)), (.long (own_xs q1))])) _
    refine st1 _ ?_
    show Steps p.tables e below (T1.setTop (mkF m 14 #[.val (.long q1), .second, .val (.long (own_xs q1)), .second] [(.long (own_inv (-4265267296055464877 : Int64))), (.long (own_xs q1))])) _
    refine own_lmul X1.here hx (hb hby d_method_3_code_14) ?_
    refine own_lstoreN X1.here hx (hb hby d_method_3_code_15) (l' := #[.val (.long q1), .second, .val (.long ((own_xs q1) * (own_inv (-4265267296055464877 : Int64)))), .second]) rfl ?_
    refine own_lloadN X1.here hx (hb hby d_method_3_code_16) rfl ?_
    refine own_lloadN X1.here hx (hb hby d_method_3_code_17) rfl ?_
    refine own_bipush X1.here hx (33 : Int32) (hb hby d_method_3_code_18) rfl ?_
    refine own_lushr X1.here hx (hb hby d_method_3_code_20) ?_
    refine own_lxor X1.here hx (hb hby d_method_3_code_21) ?_
    show Steps p.tables e below (T1.setTop (mkF m 22 #[.val (.long q1), .second, .val (.long ((own_xs q1) * (own_inv (-4265267296055464877 : Int64)))), .second] [(.long (own_xs ((own_xs q1) * (own_inv (-4265267296055464877 : Int64)))))])) _
    refine own_lstoreN X1.here hx (hb hby d_method_3_code_22) (l' := #[.val (.long q1), .second, .val (.long (own_xs ((own_xs q1) * (own_inv (-4265267296055464877 : Int64))))), .second]) rfl ?_
    refine own_lloadN X1.here hx (hb hby d_method_3_code_23) rfl ?_
    refine X1.ldc2Long hx hown (mvT hZ (hw _ (List.mem_of_getElem? (i := 19) rfl))) (g := (mkF m 24 #[.val (.long q1), .second, .val (.long (own_xs ((own_xs q1) * (own_inv (-4265267296055464877 : Int64))))), .second] [(.long (own_xs ((own_xs q1) * (own_inv (-4265267296055464877 : Int64)))))])) rfl (hb hby d_method_3_code_24) _ ?_
    show Steps p.tables e below (T1.setTop (mkF m 27 #[.val (.long q1), .second, .val (.long (own_xs ((own_xs q1) * (own_inv (-4265267296055464877 : Int64))))), .second] [(.long (-49064778989728563)), (.long (own_xs ((own_xs q1) * (own_inv (-4265267296055464877 : Int64)))))])) _
    refine st2 _ ?_
    show Steps p.tables e below (T2.setTop (mkF m 30 #[.val (.long q1), .second, .val (.long (own_xs ((own_xs q1) * (own_inv (-4265267296055464877 : Int64))))), .second] [(.long (own_inv (-49064778989728563 : Int64))), (.long (own_xs ((own_xs q1) * (own_inv (-4265267296055464877 : Int64)))))])) _
    refine own_lmul X2.here hx (hb hby d_method_3_code_30) ?_
    refine own_lstoreN X2.here hx (hb hby d_method_3_code_31) (l' := #[.val (.long q1), .second, .val (.long ((own_xs ((own_xs q1) * (own_inv (-4265267296055464877 : Int64)))) * (own_inv (-49064778989728563 : Int64)))), .second]) rfl ?_
    refine own_lloadN X2.here hx (hb hby d_method_3_code_32) rfl ?_
    refine own_lloadN X2.here hx (hb hby d_method_3_code_33) rfl ?_
    refine own_bipush X2.here hx (33 : Int32) (hb hby d_method_3_code_34) rfl ?_
    refine own_lushr X2.here hx (hb hby d_method_3_code_36) ?_
    refine own_lxor X2.here hx (hb hby d_method_3_code_37) ?_
    show Steps p.tables e below (T2.setTop (mkF m 38 #[.val (.long q1), .second, .val (.long ((own_xs ((own_xs q1) * (own_inv (-4265267296055464877 : Int64)))) * (own_inv (-49064778989728563 : Int64)))), .second] [(.long (own_xs ((own_xs ((own_xs q1) * (own_inv (-4265267296055464877 : Int64)))) * (own_inv (-49064778989728563 : Int64)))))])) _
    refine own_lstoreN X2.here hx (hb hby d_method_3_code_38) (l' := #[.val (.long q1), .second, .val (.long (own_xs ((own_xs ((own_xs q1) * (own_inv (-4265267296055464877 : Int64)))) * (own_inv (-49064778989728563 : Int64))))), .second]) rfl ?_
    refine own_lloadN X2.here hx (hb hby d_method_3_code_39) rfl ?_
    show Steps p.tables e below (T2.setTop (mkF m 40 #[.val (.long q1), .second, .val (.long (own_xs ((own_xs ((own_xs q1) * (own_inv (-4265267296055464877 : Int64)))) * (own_inv (-49064778989728563 : Int64))))), .second] [(.long (own_xs ((own_xs ((own_xs q1) * (own_inv (-4265267296055464877 : Int64)))) * (own_inv (-49064778989728563 : Int64)))))])) _
    exact X2.lreturnOut hx Bd.returns (hb hby d_method_3_code_40) hr
  · show Q2 Z q1 h0 n0 _ T2.heap _
    rw [e2]
    exact ⟨rfl, N2, rfl⟩
theorem ef_rmF_0_0 (m : MethodId) (x0 : Addr) (x1 : Int32) (x2 : Int32) : entryFrame m #[(.ref x0), (.int x1), (.int x2)] 7 = mkF m 0 #[.val (.ref x0), .val (.int x1), .val (.int x2), .unset, .unset, .unset, .unset] [] := by first | (simp [entryFrame, mkF, argsToLocals, Value.category]; done) | rfl
theorem pn_com_example_naqsh_naqsh_mining_TransactionSets : plainName "com/example/naqsh/naqsh/mining/TransactionSets" = true := by first | (simp [plainName, overriddenIn]; done) | decide +kernel
def QF_0_0 (Z : State) (a1 : Addr) (k1 : ClassId) (x0 : Int64) (x1 : Int64) (x2 : Int64) (x3 : Int64) (x4 : Int64) (x5 : Int64) (h0 : Heap) (n0 : Nat) (v : Option Value) (h : Heap) (L : List Loc) : Prop := v = some (.long (own_mix (0 : Int64))) ∧ Fr n0 L ∧ h = h0
theorem d_prog_59_method_3_code_0 : decode prog_59_method_3_code 0 = .ok (.lconst 0, 1) := by decide +kernel
theorem d_prog_59_method_3_code_1 : decode prog_59_method_3_code 1 = .ok (.lstore_n 3, 1) := by decide +kernel
theorem d_prog_59_method_3_code_2 : decode prog_59_method_3_code 2 = .ok (.iconst 0, 1) := by decide +kernel
theorem d_prog_59_method_3_code_3 : decode prog_59_method_3_code 3 = .ok (.istore 5, 2) := by decide +kernel
theorem d_prog_59_method_3_code_5 : decode prog_59_method_3_code 5 = .ok (.iload 5, 2) := by decide +kernel
theorem d_prog_59_method_3_code_7 : decode prog_59_method_3_code 7 = .ok (.iload_n 2, 1) := by decide +kernel
theorem d_prog_59_method_3_code_8 : decode prog_59_method_3_code 8 = .ok (.if_icmp .ge 30, 3) := by decide +kernel
theorem d_prog_59_method_3_code_38 : decode prog_59_method_3_code 38 = .ok (.lload_n 3, 1) := by decide +kernel
theorem d_prog_59_method_3_code_39 : decode prog_59_method_3_code 39 = .ok (.lload_n 3, 1) := by decide +kernel
theorem d_prog_59_method_3_code_40 : decode prog_59_method_3_code 40 = .ok (.bipush 33, 2) := by decide +kernel
theorem d_prog_59_method_3_code_42 : decode prog_59_method_3_code 42 = .ok (.lushr, 1) := by decide +kernel
theorem d_prog_59_method_3_code_43 : decode prog_59_method_3_code 43 = .ok (.lxor, 1) := by decide +kernel
theorem d_prog_59_method_3_code_44 : decode prog_59_method_3_code 44 = .ok (.ldc2_w 51, 3) := by decide +kernel
theorem d_prog_59_method_3_code_47 : decode prog_59_method_3_code 47 = .ok (.lmul, 1) := by decide +kernel
theorem d_prog_59_method_3_code_48 : decode prog_59_method_3_code 48 = .ok (.lstore 5, 2) := by decide +kernel
theorem d_prog_59_method_3_code_50 : decode prog_59_method_3_code 50 = .ok (.lload 5, 2) := by decide +kernel
theorem d_prog_59_method_3_code_52 : decode prog_59_method_3_code 52 = .ok (.lload 5, 2) := by decide +kernel
theorem d_prog_59_method_3_code_54 : decode prog_59_method_3_code 54 = .ok (.bipush 33, 2) := by decide +kernel
theorem d_prog_59_method_3_code_56 : decode prog_59_method_3_code 56 = .ok (.lushr, 1) := by decide +kernel
theorem d_prog_59_method_3_code_57 : decode prog_59_method_3_code 57 = .ok (.lxor, 1) := by decide +kernel
theorem d_prog_59_method_3_code_58 : decode prog_59_method_3_code 58 = .ok (.ldc2_w 53, 3) := by decide +kernel
theorem d_prog_59_method_3_code_61 : decode prog_59_method_3_code 61 = .ok (.lmul, 1) := by decide +kernel
theorem d_prog_59_method_3_code_62 : decode prog_59_method_3_code 62 = .ok (.lstore 5, 2) := by decide +kernel
theorem d_prog_59_method_3_code_64 : decode prog_59_method_3_code 64 = .ok (.lload 5, 2) := by decide +kernel
theorem d_prog_59_method_3_code_66 : decode prog_59_method_3_code 66 = .ok (.lload 5, 2) := by decide +kernel
theorem d_prog_59_method_3_code_68 : decode prog_59_method_3_code 68 = .ok (.bipush 33, 2) := by decide +kernel
theorem d_prog_59_method_3_code_70 : decode prog_59_method_3_code 70 = .ok (.lushr, 1) := by decide +kernel
theorem d_prog_59_method_3_code_71 : decode prog_59_method_3_code 71 = .ok (.lxor, 1) := by decide +kernel
theorem d_prog_59_method_3_code_72 : decode prog_59_method_3_code 72 = .ok (.lreturn, 1) := by decide +kernel
set_option maxRecDepth 65536 in
set_option maxHeartbeats 40000000 in
theorem rmF_0_0 (l : Launch) (Z : State) (a0 : Array Value) (hw : ∀ d ∈ tables_1, d.before a0 Z = true) (ws : List Jvm.Cond) (a1 : Addr) (k1 : ClassId) (x0 : Int64) (x1 : Int64) (x2 : Int64) (x3 : Int64) (x4 : Int64) (x5 : Int64) (h0 : Heap) (n0 : Nat) (Z0 : n0 ≤ h0.size) (V1 : Arv Z h0 a1 k1 .long (6 : Int32) [(.long x0), (.long x1), (.long x2), (.long x3), (.long x4), (.long x5)] (.long (0 : Int64))) :
    MetFree l (⟨"com/example/naqsh/naqsh/mining/TransactionSets", "fingerprint", "([JII)J"⟩ : MethodName) (head1 (Jvm.Cond.code (⟨"com/example/naqsh/naqsh/mining/TransactionSets", "fingerprint", "([JII)J"⟩ : MethodName) prog_59_method_3_code 7 (some .long) :: ws) ({ frames := 0, cells := 0, slots := 0, locals := 0 } : Room)) (fun a U => a = #[(.ref a1), (.int 0), (.int 0)] ∧ Z.Warmed39 U.vm ∧ U.heap = h0) (fun _ _ _ _ _ => True) (fun _ U o U' => ∃ v L, o = .returned v ∧ QF_0_0 Z a1 k1 x0 x1 x2 x3 x4 x5 h0 n0 v U'.heap L ∧ FrameEnd U o U' L ({ frames := 0, cells := 0, slots := 0, locals := 0 } : Room).cells ({ frames := 0, cells := 0, slots := 0, locals := 0 } : Room).slots) := by
  refine MetFree.of_bodySF (plainFor_of_name pn_com_example_naqsh_naqsh_mining_TransactionSets) hisR ?_
  intro p e s m args below meth c s₁ Bd hml0 hP hK
  obtain ⟨rfl, hZ, hh⟩ := hP
  have hx := Bd.exec
  have hby := Bd.bytes
  have hml : c.maxLocals = 7 := hml0
  have hown : s.vm.findClass "com/example/naqsh/naqsh/mining/TransactionSets" = some m.cls := findClass_of_methodNamed Bd.named
  have hnm := (name_of_methodNamed Bd.named Bd.method).1
  have X0 : Stand p l e ({ frames := 0, cells := 0, slots := 0, locals := 0 } : Room) s m #[(.ref a1), (.int 0), (.int 0)] below meth c s₁ [] 0 0 := Stand.of_body Bd
  have e0 : s₁.heap = h0 := by rw [← hh, Bd.state]; rfl
  have N0 := Fr.nil n0
  have pre0 : ∀ tG, Steps p.tables e below (s₁.setTop (mkF m 0 #[.val (.ref a1), .val (.int 0), .val (.int 0), .unset, .unset, .unset, .unset] [])) tG → Steps p.tables e below (s₁.setTop (entryFrame m #[(.ref a1), (.int 0), (.int 0)] 7)) tG := fun tG kG => castTop (ef_rmF_0_0 m a1 (0 : Int32) (0 : Int32)) kG
  obtain ⟨fs, hr, hrun, hended, hW, hsame⟩ := X0.leave (v := some (.long (own_xs ((own_xs ((own_xs (0 : Int64)) * (-49064778989728563 : Int64))) * (-4265267296055464877 : Int64))))) (fun h => by rw [Bd.returns] at h; cases h)
  refine ⟨_, _, pre0 _ ?_, hrun, hended, _, _, rfl, ?_, ⟨_, rfl⟩, hW, hsame.mono (by decide) (by decide)⟩
  · refine own_lconst0 X0.here hx (hb hby d_prog_59_method_3_code_0) ?_
    refine own_lstoreN X0.here hx (hb hby d_prog_59_method_3_code_1) (l' := #[.val (.ref a1), .val (.int 0), .val (.int 0), .val (.long 0), .second, .unset, .unset]) rfl ?_
    refine own_iconst X0.here hx (0 : Int32) (hb hby d_prog_59_method_3_code_2) rfl ?_
    refine own_istore X0.here hx (hb hby d_prog_59_method_3_code_3) (l' := #[.val (.ref a1), .val (.int 0), .val (.int 0), .val (.long 0), .second, .val (.int 0), .unset]) rfl ?_
    refine own_iload X0.here hx (hb hby d_prog_59_method_3_code_5) rfl ?_
    refine own_iloadN X0.here hx (hb hby d_prog_59_method_3_code_7) rfl ?_
    refine own_icmpYes X0.here hx 8 38 rfl (hb hby d_prog_59_method_3_code_8) (flt (by decide : ¬ ((0 : Int32) < (0 : Int32)))).2.1 (by decide) (by decide) ?_
    refine own_lloadN X0.here hx (hb hby d_prog_59_method_3_code_38) rfl ?_
    refine own_lloadN X0.here hx (hb hby d_prog_59_method_3_code_39) rfl ?_
    refine own_bipush X0.here hx (33 : Int32) (hb hby d_prog_59_method_3_code_40) rfl ?_
    refine own_lushr X0.here hx (hb hby d_prog_59_method_3_code_42) ?_
    refine own_lxor X0.here hx (hb hby d_prog_59_method_3_code_43) ?_
    show Steps p.tables e below (s₁.setTop (mkF m 44 #[.val (.ref a1), .val (.int 0), .val (.int 0), .val (.long 0), .second, .val (.int 0), .unset] [(.long (own_xs (0 : Int64)))])) _
    refine X0.ldc2Long hx hown (mvT hZ (hw _ (List.mem_of_getElem? (i := 9) rfl))) (g := (mkF m 44 #[.val (.ref a1), .val (.int 0), .val (.int 0), .val (.long 0), .second, .val (.int 0), .unset] [(.long (own_xs (0 : Int64)))])) rfl (hb hby d_prog_59_method_3_code_44) _ ?_
    show Steps p.tables e below (s₁.setTop (mkF m 47 #[.val (.ref a1), .val (.int 0), .val (.int 0), .val (.long 0), .second, .val (.int 0), .unset] [(.long (-49064778989728563)), (.long (own_xs (0 : Int64)))])) _
    refine own_lmul X0.here hx (hb hby d_prog_59_method_3_code_47) ?_
    refine own_lstore X0.here hx (hb hby d_prog_59_method_3_code_48) (l' := #[.val (.ref a1), .val (.int 0), .val (.int 0), .val (.long 0), .second, .val (.long ((own_xs (0 : Int64)) * (-49064778989728563 : Int64))), .second]) rfl ?_
    refine own_lload X0.here hx (hb hby d_prog_59_method_3_code_50) rfl ?_
    refine own_lload X0.here hx (hb hby d_prog_59_method_3_code_52) rfl ?_
    refine own_bipush X0.here hx (33 : Int32) (hb hby d_prog_59_method_3_code_54) rfl ?_
    refine own_lushr X0.here hx (hb hby d_prog_59_method_3_code_56) ?_
    refine own_lxor X0.here hx (hb hby d_prog_59_method_3_code_57) ?_
    show Steps p.tables e below (s₁.setTop (mkF m 58 #[.val (.ref a1), .val (.int 0), .val (.int 0), .val (.long 0), .second, .val (.long ((own_xs (0 : Int64)) * (-49064778989728563 : Int64))), .second] [(.long (own_xs ((own_xs (0 : Int64)) * (-49064778989728563 : Int64))))])) _
    refine X0.ldc2Long hx hown (mvT hZ (hw _ (List.mem_of_getElem? (i := 10) rfl))) (g := (mkF m 58 #[.val (.ref a1), .val (.int 0), .val (.int 0), .val (.long 0), .second, .val (.long ((own_xs (0 : Int64)) * (-49064778989728563 : Int64))), .second] [(.long (own_xs ((own_xs (0 : Int64)) * (-49064778989728563 : Int64))))])) rfl (hb hby d_prog_59_method_3_code_58) _ ?_
    show Steps p.tables e below (s₁.setTop (mkF m 61 #[.val (.ref a1), .val (.int 0), .val (.int 0), .val (.long 0), .second, .val (.long ((own_xs (0 : Int64)) * (-49064778989728563 : Int64))), .second] [(.long (-4265267296055464877)), (.long (own_xs ((own_xs (0 : Int64)) * (-49064778989728563 : Int64))))])) _
    refine own_lmul X0.here hx (hb hby d_prog_59_method_3_code_61) ?_
    refine own_lstore X0.here hx (hb hby d_prog_59_method_3_code_62) (l' := #[.val (.ref a1), .val (.int 0), .val (.int 0), .val (.long 0), .second, .val (.long ((own_xs ((own_xs (0 : Int64)) * (-49064778989728563 : Int64))) * (-4265267296055464877 : Int64))), .second]) rfl ?_
    refine own_lload X0.here hx (hb hby d_prog_59_method_3_code_64) rfl ?_
    refine own_lload X0.here hx (hb hby d_prog_59_method_3_code_66) rfl ?_
    refine own_bipush X0.here hx (33 : Int32) (hb hby d_prog_59_method_3_code_68) rfl ?_
    refine own_lushr X0.here hx (hb hby d_prog_59_method_3_code_70) ?_
    refine own_lxor X0.here hx (hb hby d_prog_59_method_3_code_71) ?_
    show Steps p.tables e below (s₁.setTop (mkF m 72 #[.val (.ref a1), .val (.int 0), .val (.int 0), .val (.long 0), .second, .val (.long ((own_xs ((own_xs (0 : Int64)) * (-49064778989728563 : Int64))) * (-4265267296055464877 : Int64))), .second] [(.long (own_xs ((own_xs ((own_xs (0 : Int64)) * (-49064778989728563 : Int64))) * (-4265267296055464877 : Int64))))])) _
    exact X0.lreturnOut hx Bd.returns (hb hby d_prog_59_method_3_code_72) hr
  · show QF_0_0 Z a1 k1 x0 x1 x2 x3 x4 x5 h0 n0 _ s₁.heap _
    rw [e0]
    exact ⟨rfl, N0, rfl⟩
theorem ef_rmF_0_1 (m : MethodId) (x0 : Addr) (x1 : Int32) (x2 : Int32) : entryFrame m #[(.ref x0), (.int x1), (.int x2)] 7 = mkF m 0 #[.val (.ref x0), .val (.int x1), .val (.int x2), .unset, .unset, .unset, .unset] [] := by first | (simp [entryFrame, mkF, argsToLocals, Value.category]; done) | rfl
def QF_0_1 (Z : State) (a1 : Addr) (k1 : ClassId) (x0 : Int64) (x1 : Int64) (x2 : Int64) (x3 : Int64) (x4 : Int64) (x5 : Int64) (h0 : Heap) (n0 : Nat) (v : Option Value) (h : Heap) (L : List Loc) : Prop := v = some (.long (own_mix ((0 : Int64) + (x0 * (-7046029254386353131 : Int64))))) ∧ Fr n0 L ∧ h = h0
theorem d_prog_59_method_3_code_11 : decode prog_59_method_3_code 11 = .ok (.lload_n 3, 1) := by decide +kernel
theorem d_prog_59_method_3_code_12 : decode prog_59_method_3_code 12 = .ok (.aload_n 0, 1) := by decide +kernel
theorem d_prog_59_method_3_code_13 : decode prog_59_method_3_code 13 = .ok (.iload_n 1, 1) := by decide +kernel
theorem d_prog_59_method_3_code_14 : decode prog_59_method_3_code 14 = .ok (.iload 5, 2) := by decide +kernel
theorem d_prog_59_method_3_code_16 : decode prog_59_method_3_code 16 = .ok (.iadd, 1) := by decide +kernel
theorem d_prog_59_method_3_code_17 : decode prog_59_method_3_code 17 = .ok (.laload, 1) := by decide +kernel
theorem d_prog_59_method_3_code_18 : decode prog_59_method_3_code 18 = .ok (.ldc2_w 47, 3) := by decide +kernel
theorem d_prog_59_method_3_code_21 : decode prog_59_method_3_code 21 = .ok (.ldc2_w 49, 3) := by decide +kernel
theorem d_prog_59_method_3_code_24 : decode prog_59_method_3_code 24 = .ok (.iload 5, 2) := by decide +kernel
theorem d_prog_59_method_3_code_26 : decode prog_59_method_3_code 26 = .ok (.i2l, 1) := by decide +kernel
theorem d_prog_59_method_3_code_27 : decode prog_59_method_3_code 27 = .ok (.lmul, 1) := by decide +kernel
theorem d_prog_59_method_3_code_28 : decode prog_59_method_3_code 28 = .ok (.ladd, 1) := by decide +kernel
theorem d_prog_59_method_3_code_29 : decode prog_59_method_3_code 29 = .ok (.lmul, 1) := by decide +kernel
theorem d_prog_59_method_3_code_30 : decode prog_59_method_3_code 30 = .ok (.ladd, 1) := by decide +kernel
theorem d_prog_59_method_3_code_31 : decode prog_59_method_3_code 31 = .ok (.lstore_n 3, 1) := by decide +kernel
theorem d_prog_59_method_3_code_32 : decode prog_59_method_3_code 32 = .ok (.iinc 5 1, 3) := by decide +kernel
theorem d_prog_59_method_3_code_35 : decode prog_59_method_3_code 35 = .ok (.goto (-30), 3) := by decide +kernel
set_option maxRecDepth 65536 in
set_option maxHeartbeats 40000000 in
theorem rmF_0_1 (l : Launch) (Z : State) (a0 : Array Value) (hw : ∀ d ∈ tables_1, d.before a0 Z = true) (ws : List Jvm.Cond) (a1 : Addr) (k1 : ClassId) (x0 : Int64) (x1 : Int64) (x2 : Int64) (x3 : Int64) (x4 : Int64) (x5 : Int64) (h0 : Heap) (n0 : Nat) (Z0 : n0 ≤ h0.size) (V1 : Arv Z h0 a1 k1 .long (6 : Int32) [(.long x0), (.long x1), (.long x2), (.long x3), (.long x4), (.long x5)] (.long (0 : Int64))) :
    MetFree l (⟨"com/example/naqsh/naqsh/mining/TransactionSets", "fingerprint", "([JII)J"⟩ : MethodName) (head1 (Jvm.Cond.code (⟨"com/example/naqsh/naqsh/mining/TransactionSets", "fingerprint", "([JII)J"⟩ : MethodName) prog_59_method_3_code 7 (some .long) :: ws) ({ frames := 0, cells := 0, slots := 0, locals := 0 } : Room)) (fun a U => a = #[(.ref a1), (.int 0), (.int 1)] ∧ Z.Warmed39 U.vm ∧ U.heap = h0) (fun _ _ _ _ _ => True) (fun _ U o U' => ∃ v L, o = .returned v ∧ QF_0_1 Z a1 k1 x0 x1 x2 x3 x4 x5 h0 n0 v U'.heap L ∧ FrameEnd U o U' L ({ frames := 0, cells := 0, slots := 0, locals := 0 } : Room).cells ({ frames := 0, cells := 0, slots := 0, locals := 0 } : Room).slots) := by
  refine MetFree.of_bodySF (plainFor_of_name pn_com_example_naqsh_naqsh_mining_TransactionSets) hisR ?_
  intro p e s m args below meth c s₁ Bd hml0 hP hK
  obtain ⟨rfl, hZ, hh⟩ := hP
  have hx := Bd.exec
  have hby := Bd.bytes
  have hml : c.maxLocals = 7 := hml0
  have hown : s.vm.findClass "com/example/naqsh/naqsh/mining/TransactionSets" = some m.cls := findClass_of_methodNamed Bd.named
  have hnm := (name_of_methodNamed Bd.named Bd.method).1
  have X0 : Stand p l e ({ frames := 0, cells := 0, slots := 0, locals := 0 } : Room) s m #[(.ref a1), (.int 0), (.int 1)] below meth c s₁ [] 0 0 := Stand.of_body Bd
  have e0 : s₁.heap = h0 := by rw [← hh, Bd.state]; rfl
  have N0 := Fr.nil n0
  have pre0 : ∀ tG, Steps p.tables e below (s₁.setTop (mkF m 0 #[.val (.ref a1), .val (.int 0), .val (.int 1), .unset, .unset, .unset, .unset] [])) tG → Steps p.tables e below (s₁.setTop (entryFrame m #[(.ref a1), (.int 0), (.int 1)] 7)) tG := fun tG kG => castTop (ef_rmF_0_1 m a1 (0 : Int32) (1 : Int32)) kG
  obtain ⟨cl3, Ar3, q3, S3, M3, H3, J3⟩ := id V1
  have hin3 : ¬ ((0 : Int32) < 0 ∨ cl3.slots.size ≤ ((0 : Int32)).toNatClampNeg) := inb_of S3 ⟨by decide, by decide⟩
  have hat3 : cl3.slots[((0 : Int32)).toNatClampNeg]? = some (.long x0) := Has.at H3 hin3 rfl
  obtain ⟨fs, hr, hrun, hended, hW, hsame⟩ := X0.leave (v := some (.long (own_xs ((own_xs ((own_xs ((0 : Int64) + (x0 * (-7046029254386353131 : Int64)))) * (-49064778989728563 : Int64))) * (-4265267296055464877 : Int64))))) (fun h => by rw [Bd.returns] at h; cases h)
  refine ⟨_, _, pre0 _ ?_, hrun, hended, _, _, rfl, ?_, ⟨_, rfl⟩, hW, hsame.mono (by decide) (by decide)⟩
  · refine own_lconst0 X0.here hx (hb hby d_prog_59_method_3_code_0) ?_
    refine own_lstoreN X0.here hx (hb hby d_prog_59_method_3_code_1) (l' := #[.val (.ref a1), .val (.int 0), .val (.int 1), .val (.long 0), .second, .unset, .unset]) rfl ?_
    refine own_iconst X0.here hx (0 : Int32) (hb hby d_prog_59_method_3_code_2) rfl ?_
    refine own_istore X0.here hx (hb hby d_prog_59_method_3_code_3) (l' := #[.val (.ref a1), .val (.int 0), .val (.int 1), .val (.long 0), .second, .val (.int 0), .unset]) rfl ?_
    refine own_iload X0.here hx (hb hby d_prog_59_method_3_code_5) rfl ?_
    refine own_iloadN X0.here hx (hb hby d_prog_59_method_3_code_7) rfl ?_
    refine own_icmpNo X0.here hx (hb hby d_prog_59_method_3_code_8) (tlt (by decide : (0 : Int32) < (1 : Int32))).2.1 ?_
    refine own_lloadN X0.here hx (hb hby d_prog_59_method_3_code_11) rfl ?_
    refine own_aloadN X0.here hx (hb hby d_prog_59_method_3_code_12) rfl rfl ?_
    refine own_iloadN X0.here hx (hb hby d_prog_59_method_3_code_13) rfl ?_
    refine own_iload X0.here hx (hb hby d_prog_59_method_3_code_14) rfl ?_
    refine own_iadd X0.here hx (hb hby d_prog_59_method_3_code_16) ?_
    show Steps p.tables e below (s₁.setTop (mkF m 17 #[.val (.ref a1), .val (.int 0), .val (.int 1), .val (.long 0), .second, .val (.int 0), .unset] [(.int 0), (.ref a1), (.long 0)])) _
    refine X0.laload hx (j := (0 : Int32)) (v := (.long x0)) (by rw [e0]; exact Ar3.1) (State.isArrayOf_alike hZ.alike Ar3.2.1) Ar3.2.2 hin3 hat3 (g := (mkF m 17 #[.val (.ref a1), .val (.int 0), .val (.int 1), .val (.long 0), .second, .val (.int 0), .unset] [(.int 0), (.ref a1), (.long 0)])) rfl rfl (hb hby d_prog_59_method_3_code_17) _ ?_
    show Steps p.tables e below (s₁.setTop (mkF m 18 #[.val (.ref a1), .val (.int 0), .val (.int 1), .val (.long 0), .second, .val (.int 0), .unset] [(.long x0), (.long 0)])) _
    refine X0.ldc2Long hx hown (mvT hZ (hw _ (List.mem_of_getElem? (i := 7) rfl))) (g := (mkF m 18 #[.val (.ref a1), .val (.int 0), .val (.int 1), .val (.long 0), .second, .val (.int 0), .unset] [(.long x0), (.long 0)])) rfl (hb hby d_prog_59_method_3_code_18) _ ?_
    show Steps p.tables e below (s₁.setTop (mkF m 21 #[.val (.ref a1), .val (.int 0), .val (.int 1), .val (.long 0), .second, .val (.int 0), .unset] [(.long (-7046029254386353131)), (.long x0), (.long 0)])) _
    refine X0.ldc2Long hx hown (mvT hZ (hw _ (List.mem_of_getElem? (i := 8) rfl))) (g := (mkF m 21 #[.val (.ref a1), .val (.int 0), .val (.int 1), .val (.long 0), .second, .val (.int 0), .unset] [(.long (-7046029254386353131)), (.long x0), (.long 0)])) rfl (hb hby d_prog_59_method_3_code_21) _ ?_
    show Steps p.tables e below (s₁.setTop (mkF m 24 #[.val (.ref a1), .val (.int 0), .val (.int 1), .val (.long 0), .second, .val (.int 0), .unset] [(.long 2), (.long (-7046029254386353131)), (.long x0), (.long 0)])) _
    refine own_iload X0.here hx (hb hby d_prog_59_method_3_code_24) rfl ?_
    refine own_i2l X0.here hx (hb hby d_prog_59_method_3_code_26) ?_
    show Steps p.tables e below (s₁.setTop (mkF m 27 #[.val (.ref a1), .val (.int 0), .val (.int 1), .val (.long 0), .second, .val (.int 0), .unset] [(.long 0), (.long 2), (.long (-7046029254386353131)), (.long x0), (.long 0)])) _
    refine own_lmul X0.here hx (hb hby d_prog_59_method_3_code_27) ?_
    show Steps p.tables e below (s₁.setTop (mkF m 28 #[.val (.ref a1), .val (.int 0), .val (.int 1), .val (.long 0), .second, .val (.int 0), .unset] [(.long 0), (.long (-7046029254386353131)), (.long x0), (.long 0)])) _
    refine own_ladd X0.here hx (hb hby d_prog_59_method_3_code_28) ?_
    show Steps p.tables e below (s₁.setTop (mkF m 29 #[.val (.ref a1), .val (.int 0), .val (.int 1), .val (.long 0), .second, .val (.int 0), .unset] [(.long (-7046029254386353131)), (.long x0), (.long 0)])) _
    refine own_lmul X0.here hx (hb hby d_prog_59_method_3_code_29) ?_
    refine own_ladd X0.here hx (hb hby d_prog_59_method_3_code_30) ?_
    refine own_lstoreN X0.here hx (hb hby d_prog_59_method_3_code_31) (l' := #[.val (.ref a1), .val (.int 0), .val (.int 1), .val (.long ((0 : Int64) + (x0 * (-7046029254386353131 : Int64)))), .second, .val (.int 0), .unset]) rfl ?_
    refine own_iinc X0.here hx (1 : Int32) (hb hby d_prog_59_method_3_code_32) rfl rfl (l' := #[.val (.ref a1), .val (.int 0), .val (.int 1), .val (.long ((0 : Int64) + (x0 * (-7046029254386353131 : Int64)))), .second, .val (.int 1), .unset]) rfl ?_
    refine own_goto X0.here hx 35 5 rfl (hb hby d_prog_59_method_3_code_35) (by decide) (by decide) ?_
    refine own_iload X0.here hx (hb hby d_prog_59_method_3_code_5) rfl ?_
    refine own_iloadN X0.here hx (hb hby d_prog_59_method_3_code_7) rfl ?_
    refine own_icmpYes X0.here hx 8 38 rfl (hb hby d_prog_59_method_3_code_8) (flt (by decide : ¬ ((1 : Int32) < (1 : Int32)))).2.1 (by decide) (by decide) ?_
    refine own_lloadN X0.here hx (hb hby d_prog_59_method_3_code_38) rfl ?_
    refine own_lloadN X0.here hx (hb hby d_prog_59_method_3_code_39) rfl ?_
    refine own_bipush X0.here hx (33 : Int32) (hb hby d_prog_59_method_3_code_40) rfl ?_
    refine own_lushr X0.here hx (hb hby d_prog_59_method_3_code_42) ?_
    refine own_lxor X0.here hx (hb hby d_prog_59_method_3_code_43) ?_
    show Steps p.tables e below (s₁.setTop (mkF m 44 #[.val (.ref a1), .val (.int 0), .val (.int 1), .val (.long ((0 : Int64) + (x0 * (-7046029254386353131 : Int64)))), .second, .val (.int 1), .unset] [(.long (own_xs ((0 : Int64) + (x0 * (-7046029254386353131 : Int64)))))])) _
    refine X0.ldc2Long hx hown (mvT hZ (hw _ (List.mem_of_getElem? (i := 9) rfl))) (g := (mkF m 44 #[.val (.ref a1), .val (.int 0), .val (.int 1), .val (.long ((0 : Int64) + (x0 * (-7046029254386353131 : Int64)))), .second, .val (.int 1), .unset] [(.long (own_xs ((0 : Int64) + (x0 * (-7046029254386353131 : Int64)))))])) rfl (hb hby d_prog_59_method_3_code_44) _ ?_
    show Steps p.tables e below (s₁.setTop (mkF m 47 #[.val (.ref a1), .val (.int 0), .val (.int 1), .val (.long ((0 : Int64) + (x0 * (-7046029254386353131 : Int64)))), .second, .val (.int 1), .unset] [(.long (-49064778989728563)), (.long (own_xs ((0 : Int64) + (x0 * (-7046029254386353131 : Int64)))))])) _
    refine own_lmul X0.here hx (hb hby d_prog_59_method_3_code_47) ?_
    refine own_lstore X0.here hx (hb hby d_prog_59_method_3_code_48) (l' := #[.val (.ref a1), .val (.int 0), .val (.int 1), .val (.long ((0 : Int64) + (x0 * (-7046029254386353131 : Int64)))), .second, .val (.long ((own_xs ((0 : Int64) + (x0 * (-7046029254386353131 : Int64)))) * (-49064778989728563 : Int64))), .second]) rfl ?_
    refine own_lload X0.here hx (hb hby d_prog_59_method_3_code_50) rfl ?_
    refine own_lload X0.here hx (hb hby d_prog_59_method_3_code_52) rfl ?_
    refine own_bipush X0.here hx (33 : Int32) (hb hby d_prog_59_method_3_code_54) rfl ?_
    refine own_lushr X0.here hx (hb hby d_prog_59_method_3_code_56) ?_
    refine own_lxor X0.here hx (hb hby d_prog_59_method_3_code_57) ?_
    show Steps p.tables e below (s₁.setTop (mkF m 58 #[.val (.ref a1), .val (.int 0), .val (.int 1), .val (.long ((0 : Int64) + (x0 * (-7046029254386353131 : Int64)))), .second, .val (.long ((own_xs ((0 : Int64) + (x0 * (-7046029254386353131 : Int64)))) * (-49064778989728563 : Int64))), .second] [(.long (own_xs ((own_xs ((0 : Int64) + (x0 * (-7046029254386353131 : Int64)))) * (-49064778989728563 : Int64))))])) _
    refine X0.ldc2Long hx hown (mvT hZ (hw _ (List.mem_of_getElem? (i := 10) rfl))) (g := (mkF m 58 #[.val (.ref a1), .val (.int 0), .val (.int 1), .val (.long ((0 : Int64) + (x0 * (-7046029254386353131 : Int64)))), .second, .val (.long ((own_xs ((0 : Int64) + (x0 * (-7046029254386353131 : Int64)))) * (-49064778989728563 : Int64))), .second] [(.long (own_xs ((own_xs ((0 : Int64) + (x0 * (-7046029254386353131 : Int64)))) * (-49064778989728563 : Int64))))])) rfl (hb hby d_prog_59_method_3_code_58) _ ?_
    show Steps p.tables e below (s₁.setTop (mkF m 61 #[.val (.ref a1), .val (.int 0), .val (.int 1), .val (.long ((0 : Int64) + (x0 * (-7046029254386353131 : Int64)))), .second, .val (.long ((own_xs ((0 : Int64) + (x0 * (-7046029254386353131 : Int64)))) * (-49064778989728563 : Int64))), .second] [(.long (-4265267296055464877)), (.long (own_xs ((own_xs ((0 : Int64) + (x0 * (-7046029254386353131 : Int64)))) * (-49064778989728563 : Int64))))])) _
    refine own_lmul X0.here hx (hb hby d_prog_59_method_3_code_61) ?_
    refine own_lstore X0.here hx (hb hby d_prog_59_method_3_code_62) (l' := #[.val (.ref a1), .val (.int 0), .val (.int 1), .val (.long ((0 : Int64) + (x0 * (-7046029254386353131 : Int64)))), .second, .val (.long ((own_xs ((own_xs ((0 : Int64) + (x0 * (-7046029254386353131 : Int64)))) * (-49064778989728563 : Int64))) * (-4265267296055464877 : Int64))), .second]) rfl ?_
    refine own_lload X0.here hx (hb hby d_prog_59_method_3_code_64) rfl ?_
    refine own_lload X0.here hx (hb hby d_prog_59_method_3_code_66) rfl ?_
    refine own_bipush X0.here hx (33 : Int32) (hb hby d_prog_59_method_3_code_68) rfl ?_
    refine own_lushr X0.here hx (hb hby d_prog_59_method_3_code_70) ?_
    refine own_lxor X0.here hx (hb hby d_prog_59_method_3_code_71) ?_
    show Steps p.tables e below (s₁.setTop (mkF m 72 #[.val (.ref a1), .val (.int 0), .val (.int 1), .val (.long ((0 : Int64) + (x0 * (-7046029254386353131 : Int64)))), .second, .val (.long ((own_xs ((own_xs ((0 : Int64) + (x0 * (-7046029254386353131 : Int64)))) * (-49064778989728563 : Int64))) * (-4265267296055464877 : Int64))), .second] [(.long (own_xs ((own_xs ((own_xs ((0 : Int64) + (x0 * (-7046029254386353131 : Int64)))) * (-49064778989728563 : Int64))) * (-4265267296055464877 : Int64))))])) _
    exact X0.lreturnOut hx Bd.returns (hb hby d_prog_59_method_3_code_72) hr
  · show QF_0_1 Z a1 k1 x0 x1 x2 x3 x4 x5 h0 n0 _ s₁.heap _
    rw [e0]
    exact ⟨rfl, N0, rfl⟩
theorem ef_rmF_0_2 (m : MethodId) (x0 : Addr) (x1 : Int32) (x2 : Int32) : entryFrame m #[(.ref x0), (.int x1), (.int x2)] 7 = mkF m 0 #[.val (.ref x0), .val (.int x1), .val (.int x2), .unset, .unset, .unset, .unset] [] := by first | (simp [entryFrame, mkF, argsToLocals, Value.category]; done) | rfl
def QF_0_2 (Z : State) (a1 : Addr) (k1 : ClassId) (x0 : Int64) (x1 : Int64) (x2 : Int64) (x3 : Int64) (x4 : Int64) (x5 : Int64) (h0 : Heap) (n0 : Nat) (v : Option Value) (h : Heap) (L : List Loc) : Prop := v = some (.long (own_mix (((0 : Int64) + (x0 * (-7046029254386353131 : Int64))) + (x1 * (-7046029254386353129 : Int64))))) ∧ Fr n0 L ∧ h = h0
set_option maxRecDepth 65536 in
set_option maxHeartbeats 40000000 in
theorem rmF_0_2 (l : Launch) (Z : State) (a0 : Array Value) (hw : ∀ d ∈ tables_1, d.before a0 Z = true) (ws : List Jvm.Cond) (a1 : Addr) (k1 : ClassId) (x0 : Int64) (x1 : Int64) (x2 : Int64) (x3 : Int64) (x4 : Int64) (x5 : Int64) (h0 : Heap) (n0 : Nat) (Z0 : n0 ≤ h0.size) (V1 : Arv Z h0 a1 k1 .long (6 : Int32) [(.long x0), (.long x1), (.long x2), (.long x3), (.long x4), (.long x5)] (.long (0 : Int64))) :
    MetFree l (⟨"com/example/naqsh/naqsh/mining/TransactionSets", "fingerprint", "([JII)J"⟩ : MethodName) (head1 (Jvm.Cond.code (⟨"com/example/naqsh/naqsh/mining/TransactionSets", "fingerprint", "([JII)J"⟩ : MethodName) prog_59_method_3_code 7 (some .long) :: ws) ({ frames := 0, cells := 0, slots := 0, locals := 0 } : Room)) (fun a U => a = #[(.ref a1), (.int 0), (.int 2)] ∧ Z.Warmed39 U.vm ∧ U.heap = h0) (fun _ _ _ _ _ => True) (fun _ U o U' => ∃ v L, o = .returned v ∧ QF_0_2 Z a1 k1 x0 x1 x2 x3 x4 x5 h0 n0 v U'.heap L ∧ FrameEnd U o U' L ({ frames := 0, cells := 0, slots := 0, locals := 0 } : Room).cells ({ frames := 0, cells := 0, slots := 0, locals := 0 } : Room).slots) := by
  refine MetFree.of_bodySF (plainFor_of_name pn_com_example_naqsh_naqsh_mining_TransactionSets) hisR ?_
  intro p e s m args below meth c s₁ Bd hml0 hP hK
  obtain ⟨rfl, hZ, hh⟩ := hP
  have hx := Bd.exec
  have hby := Bd.bytes
  have hml : c.maxLocals = 7 := hml0
  have hown : s.vm.findClass "com/example/naqsh/naqsh/mining/TransactionSets" = some m.cls := findClass_of_methodNamed Bd.named
  have hnm := (name_of_methodNamed Bd.named Bd.method).1
  have X0 : Stand p l e ({ frames := 0, cells := 0, slots := 0, locals := 0 } : Room) s m #[(.ref a1), (.int 0), (.int 2)] below meth c s₁ [] 0 0 := Stand.of_body Bd
  have e0 : s₁.heap = h0 := by rw [← hh, Bd.state]; rfl
  have N0 := Fr.nil n0
  have pre0 : ∀ tG, Steps p.tables e below (s₁.setTop (mkF m 0 #[.val (.ref a1), .val (.int 0), .val (.int 2), .unset, .unset, .unset, .unset] [])) tG → Steps p.tables e below (s₁.setTop (entryFrame m #[(.ref a1), (.int 0), (.int 2)] 7)) tG := fun tG kG => castTop (ef_rmF_0_2 m a1 (0 : Int32) (2 : Int32)) kG
  obtain ⟨cl4, Ar4, q4, S4, M4, H4, J4⟩ := id V1
  have hin4 : ¬ ((0 : Int32) < 0 ∨ cl4.slots.size ≤ ((0 : Int32)).toNatClampNeg) := inb_of S4 ⟨by decide, by decide⟩
  have hat4 : cl4.slots[((0 : Int32)).toNatClampNeg]? = some (.long x0) := Has.at H4 hin4 rfl
  obtain ⟨cl5, Ar5, q5, S5, M5, H5, J5⟩ := id V1
  have hin5 : ¬ ((1 : Int32) < 0 ∨ cl5.slots.size ≤ ((1 : Int32)).toNatClampNeg) := inb_of S5 ⟨by decide, by decide⟩
  have hat5 : cl5.slots[((1 : Int32)).toNatClampNeg]? = some (.long x1) := Has.at H5 hin5 rfl
  obtain ⟨fs, hr, hrun, hended, hW, hsame⟩ := X0.leave (v := some (.long (own_xs ((own_xs ((own_xs (((0 : Int64) + (x0 * (-7046029254386353131 : Int64))) + (x1 * (-7046029254386353129 : Int64)))) * (-49064778989728563 : Int64))) * (-4265267296055464877 : Int64))))) (fun h => by rw [Bd.returns] at h; cases h)
  refine ⟨_, _, pre0 _ ?_, hrun, hended, _, _, rfl, ?_, ⟨_, rfl⟩, hW, hsame.mono (by decide) (by decide)⟩
  · refine own_lconst0 X0.here hx (hb hby d_prog_59_method_3_code_0) ?_
    refine own_lstoreN X0.here hx (hb hby d_prog_59_method_3_code_1) (l' := #[.val (.ref a1), .val (.int 0), .val (.int 2), .val (.long 0), .second, .unset, .unset]) rfl ?_
    refine own_iconst X0.here hx (0 : Int32) (hb hby d_prog_59_method_3_code_2) rfl ?_
    refine own_istore X0.here hx (hb hby d_prog_59_method_3_code_3) (l' := #[.val (.ref a1), .val (.int 0), .val (.int 2), .val (.long 0), .second, .val (.int 0), .unset]) rfl ?_
    refine own_iload X0.here hx (hb hby d_prog_59_method_3_code_5) rfl ?_
    refine own_iloadN X0.here hx (hb hby d_prog_59_method_3_code_7) rfl ?_
    refine own_icmpNo X0.here hx (hb hby d_prog_59_method_3_code_8) (tlt (by decide : (0 : Int32) < (2 : Int32))).2.1 ?_
    refine own_lloadN X0.here hx (hb hby d_prog_59_method_3_code_11) rfl ?_
    refine own_aloadN X0.here hx (hb hby d_prog_59_method_3_code_12) rfl rfl ?_
    refine own_iloadN X0.here hx (hb hby d_prog_59_method_3_code_13) rfl ?_
    refine own_iload X0.here hx (hb hby d_prog_59_method_3_code_14) rfl ?_
    refine own_iadd X0.here hx (hb hby d_prog_59_method_3_code_16) ?_
    show Steps p.tables e below (s₁.setTop (mkF m 17 #[.val (.ref a1), .val (.int 0), .val (.int 2), .val (.long 0), .second, .val (.int 0), .unset] [(.int 0), (.ref a1), (.long 0)])) _
    refine X0.laload hx (j := (0 : Int32)) (v := (.long x0)) (by rw [e0]; exact Ar4.1) (State.isArrayOf_alike hZ.alike Ar4.2.1) Ar4.2.2 hin4 hat4 (g := (mkF m 17 #[.val (.ref a1), .val (.int 0), .val (.int 2), .val (.long 0), .second, .val (.int 0), .unset] [(.int 0), (.ref a1), (.long 0)])) rfl rfl (hb hby d_prog_59_method_3_code_17) _ ?_
    show Steps p.tables e below (s₁.setTop (mkF m 18 #[.val (.ref a1), .val (.int 0), .val (.int 2), .val (.long 0), .second, .val (.int 0), .unset] [(.long x0), (.long 0)])) _
    refine X0.ldc2Long hx hown (mvT hZ (hw _ (List.mem_of_getElem? (i := 7) rfl))) (g := (mkF m 18 #[.val (.ref a1), .val (.int 0), .val (.int 2), .val (.long 0), .second, .val (.int 0), .unset] [(.long x0), (.long 0)])) rfl (hb hby d_prog_59_method_3_code_18) _ ?_
    show Steps p.tables e below (s₁.setTop (mkF m 21 #[.val (.ref a1), .val (.int 0), .val (.int 2), .val (.long 0), .second, .val (.int 0), .unset] [(.long (-7046029254386353131)), (.long x0), (.long 0)])) _
    refine X0.ldc2Long hx hown (mvT hZ (hw _ (List.mem_of_getElem? (i := 8) rfl))) (g := (mkF m 21 #[.val (.ref a1), .val (.int 0), .val (.int 2), .val (.long 0), .second, .val (.int 0), .unset] [(.long (-7046029254386353131)), (.long x0), (.long 0)])) rfl (hb hby d_prog_59_method_3_code_21) _ ?_
    show Steps p.tables e below (s₁.setTop (mkF m 24 #[.val (.ref a1), .val (.int 0), .val (.int 2), .val (.long 0), .second, .val (.int 0), .unset] [(.long 2), (.long (-7046029254386353131)), (.long x0), (.long 0)])) _
    refine own_iload X0.here hx (hb hby d_prog_59_method_3_code_24) rfl ?_
    refine own_i2l X0.here hx (hb hby d_prog_59_method_3_code_26) ?_
    show Steps p.tables e below (s₁.setTop (mkF m 27 #[.val (.ref a1), .val (.int 0), .val (.int 2), .val (.long 0), .second, .val (.int 0), .unset] [(.long 0), (.long 2), (.long (-7046029254386353131)), (.long x0), (.long 0)])) _
    refine own_lmul X0.here hx (hb hby d_prog_59_method_3_code_27) ?_
    show Steps p.tables e below (s₁.setTop (mkF m 28 #[.val (.ref a1), .val (.int 0), .val (.int 2), .val (.long 0), .second, .val (.int 0), .unset] [(.long 0), (.long (-7046029254386353131)), (.long x0), (.long 0)])) _
    refine own_ladd X0.here hx (hb hby d_prog_59_method_3_code_28) ?_
    show Steps p.tables e below (s₁.setTop (mkF m 29 #[.val (.ref a1), .val (.int 0), .val (.int 2), .val (.long 0), .second, .val (.int 0), .unset] [(.long (-7046029254386353131)), (.long x0), (.long 0)])) _
    refine own_lmul X0.here hx (hb hby d_prog_59_method_3_code_29) ?_
    refine own_ladd X0.here hx (hb hby d_prog_59_method_3_code_30) ?_
    refine own_lstoreN X0.here hx (hb hby d_prog_59_method_3_code_31) (l' := #[.val (.ref a1), .val (.int 0), .val (.int 2), .val (.long ((0 : Int64) + (x0 * (-7046029254386353131 : Int64)))), .second, .val (.int 0), .unset]) rfl ?_
    refine own_iinc X0.here hx (1 : Int32) (hb hby d_prog_59_method_3_code_32) rfl rfl (l' := #[.val (.ref a1), .val (.int 0), .val (.int 2), .val (.long ((0 : Int64) + (x0 * (-7046029254386353131 : Int64)))), .second, .val (.int 1), .unset]) rfl ?_
    refine own_goto X0.here hx 35 5 rfl (hb hby d_prog_59_method_3_code_35) (by decide) (by decide) ?_
    refine own_iload X0.here hx (hb hby d_prog_59_method_3_code_5) rfl ?_
    refine own_iloadN X0.here hx (hb hby d_prog_59_method_3_code_7) rfl ?_
    refine own_icmpNo X0.here hx (hb hby d_prog_59_method_3_code_8) (tlt (by decide : (1 : Int32) < (2 : Int32))).2.1 ?_
    refine own_lloadN X0.here hx (hb hby d_prog_59_method_3_code_11) rfl ?_
    refine own_aloadN X0.here hx (hb hby d_prog_59_method_3_code_12) rfl rfl ?_
    refine own_iloadN X0.here hx (hb hby d_prog_59_method_3_code_13) rfl ?_
    refine own_iload X0.here hx (hb hby d_prog_59_method_3_code_14) rfl ?_
    refine own_iadd X0.here hx (hb hby d_prog_59_method_3_code_16) ?_
    show Steps p.tables e below (s₁.setTop (mkF m 17 #[.val (.ref a1), .val (.int 0), .val (.int 2), .val (.long ((0 : Int64) + (x0 * (-7046029254386353131 : Int64)))), .second, .val (.int 1), .unset] [(.int 1), (.ref a1), (.long ((0 : Int64) + (x0 * (-7046029254386353131 : Int64))))])) _
    refine X0.laload hx (j := (1 : Int32)) (v := (.long x1)) (by rw [e0]; exact Ar5.1) (State.isArrayOf_alike hZ.alike Ar5.2.1) Ar5.2.2 hin5 hat5 (g := (mkF m 17 #[.val (.ref a1), .val (.int 0), .val (.int 2), .val (.long ((0 : Int64) + (x0 * (-7046029254386353131 : Int64)))), .second, .val (.int 1), .unset] [(.int 1), (.ref a1), (.long ((0 : Int64) + (x0 * (-7046029254386353131 : Int64))))])) rfl rfl (hb hby d_prog_59_method_3_code_17) _ ?_
    show Steps p.tables e below (s₁.setTop (mkF m 18 #[.val (.ref a1), .val (.int 0), .val (.int 2), .val (.long ((0 : Int64) + (x0 * (-7046029254386353131 : Int64)))), .second, .val (.int 1), .unset] [(.long x1), (.long ((0 : Int64) + (x0 * (-7046029254386353131 : Int64))))])) _
    refine X0.ldc2Long hx hown (mvT hZ (hw _ (List.mem_of_getElem? (i := 7) rfl))) (g := (mkF m 18 #[.val (.ref a1), .val (.int 0), .val (.int 2), .val (.long ((0 : Int64) + (x0 * (-7046029254386353131 : Int64)))), .second, .val (.int 1), .unset] [(.long x1), (.long ((0 : Int64) + (x0 * (-7046029254386353131 : Int64))))])) rfl (hb hby d_prog_59_method_3_code_18) _ ?_
    show Steps p.tables e below (s₁.setTop (mkF m 21 #[.val (.ref a1), .val (.int 0), .val (.int 2), .val (.long ((0 : Int64) + (x0 * (-7046029254386353131 : Int64)))), .second, .val (.int 1), .unset] [(.long (-7046029254386353131)), (.long x1), (.long ((0 : Int64) + (x0 * (-7046029254386353131 : Int64))))])) _
    refine X0.ldc2Long hx hown (mvT hZ (hw _ (List.mem_of_getElem? (i := 8) rfl))) (g := (mkF m 21 #[.val (.ref a1), .val (.int 0), .val (.int 2), .val (.long ((0 : Int64) + (x0 * (-7046029254386353131 : Int64)))), .second, .val (.int 1), .unset] [(.long (-7046029254386353131)), (.long x1), (.long ((0 : Int64) + (x0 * (-7046029254386353131 : Int64))))])) rfl (hb hby d_prog_59_method_3_code_21) _ ?_
    show Steps p.tables e below (s₁.setTop (mkF m 24 #[.val (.ref a1), .val (.int 0), .val (.int 2), .val (.long ((0 : Int64) + (x0 * (-7046029254386353131 : Int64)))), .second, .val (.int 1), .unset] [(.long 2), (.long (-7046029254386353131)), (.long x1), (.long ((0 : Int64) + (x0 * (-7046029254386353131 : Int64))))])) _
    refine own_iload X0.here hx (hb hby d_prog_59_method_3_code_24) rfl ?_
    refine own_i2l X0.here hx (hb hby d_prog_59_method_3_code_26) ?_
    show Steps p.tables e below (s₁.setTop (mkF m 27 #[.val (.ref a1), .val (.int 0), .val (.int 2), .val (.long ((0 : Int64) + (x0 * (-7046029254386353131 : Int64)))), .second, .val (.int 1), .unset] [(.long 1), (.long 2), (.long (-7046029254386353131)), (.long x1), (.long ((0 : Int64) + (x0 * (-7046029254386353131 : Int64))))])) _
    refine own_lmul X0.here hx (hb hby d_prog_59_method_3_code_27) ?_
    show Steps p.tables e below (s₁.setTop (mkF m 28 #[.val (.ref a1), .val (.int 0), .val (.int 2), .val (.long ((0 : Int64) + (x0 * (-7046029254386353131 : Int64)))), .second, .val (.int 1), .unset] [(.long 2), (.long (-7046029254386353131)), (.long x1), (.long ((0 : Int64) + (x0 * (-7046029254386353131 : Int64))))])) _
    refine own_ladd X0.here hx (hb hby d_prog_59_method_3_code_28) ?_
    show Steps p.tables e below (s₁.setTop (mkF m 29 #[.val (.ref a1), .val (.int 0), .val (.int 2), .val (.long ((0 : Int64) + (x0 * (-7046029254386353131 : Int64)))), .second, .val (.int 1), .unset] [(.long (-7046029254386353129)), (.long x1), (.long ((0 : Int64) + (x0 * (-7046029254386353131 : Int64))))])) _
    refine own_lmul X0.here hx (hb hby d_prog_59_method_3_code_29) ?_
    refine own_ladd X0.here hx (hb hby d_prog_59_method_3_code_30) ?_
    refine own_lstoreN X0.here hx (hb hby d_prog_59_method_3_code_31) (l' := #[.val (.ref a1), .val (.int 0), .val (.int 2), .val (.long (((0 : Int64) + (x0 * (-7046029254386353131 : Int64))) + (x1 * (-7046029254386353129 : Int64)))), .second, .val (.int 1), .unset]) rfl ?_
    refine own_iinc X0.here hx (1 : Int32) (hb hby d_prog_59_method_3_code_32) rfl rfl (l' := #[.val (.ref a1), .val (.int 0), .val (.int 2), .val (.long (((0 : Int64) + (x0 * (-7046029254386353131 : Int64))) + (x1 * (-7046029254386353129 : Int64)))), .second, .val (.int 2), .unset]) rfl ?_
    refine own_goto X0.here hx 35 5 rfl (hb hby d_prog_59_method_3_code_35) (by decide) (by decide) ?_
    refine own_iload X0.here hx (hb hby d_prog_59_method_3_code_5) rfl ?_
    refine own_iloadN X0.here hx (hb hby d_prog_59_method_3_code_7) rfl ?_
    refine own_icmpYes X0.here hx 8 38 rfl (hb hby d_prog_59_method_3_code_8) (flt (by decide : ¬ ((2 : Int32) < (2 : Int32)))).2.1 (by decide) (by decide) ?_
    refine own_lloadN X0.here hx (hb hby d_prog_59_method_3_code_38) rfl ?_
    refine own_lloadN X0.here hx (hb hby d_prog_59_method_3_code_39) rfl ?_
    refine own_bipush X0.here hx (33 : Int32) (hb hby d_prog_59_method_3_code_40) rfl ?_
    refine own_lushr X0.here hx (hb hby d_prog_59_method_3_code_42) ?_
    refine own_lxor X0.here hx (hb hby d_prog_59_method_3_code_43) ?_
    show Steps p.tables e below (s₁.setTop (mkF m 44 #[.val (.ref a1), .val (.int 0), .val (.int 2), .val (.long (((0 : Int64) + (x0 * (-7046029254386353131 : Int64))) + (x1 * (-7046029254386353129 : Int64)))), .second, .val (.int 2), .unset] [(.long (own_xs (((0 : Int64) + (x0 * (-7046029254386353131 : Int64))) + (x1 * (-7046029254386353129 : Int64)))))])) _
    refine X0.ldc2Long hx hown (mvT hZ (hw _ (List.mem_of_getElem? (i := 9) rfl))) (g := (mkF m 44 #[.val (.ref a1), .val (.int 0), .val (.int 2), .val (.long (((0 : Int64) + (x0 * (-7046029254386353131 : Int64))) + (x1 * (-7046029254386353129 : Int64)))), .second, .val (.int 2), .unset] [(.long (own_xs (((0 : Int64) + (x0 * (-7046029254386353131 : Int64))) + (x1 * (-7046029254386353129 : Int64)))))])) rfl (hb hby d_prog_59_method_3_code_44) _ ?_
    show Steps p.tables e below (s₁.setTop (mkF m 47 #[.val (.ref a1), .val (.int 0), .val (.int 2), .val (.long (((0 : Int64) + (x0 * (-7046029254386353131 : Int64))) + (x1 * (-7046029254386353129 : Int64)))), .second, .val (.int 2), .unset] [(.long (-49064778989728563)), (.long (own_xs (((0 : Int64) + (x0 * (-7046029254386353131 : Int64))) + (x1 * (-7046029254386353129 : Int64)))))])) _
    refine own_lmul X0.here hx (hb hby d_prog_59_method_3_code_47) ?_
    refine own_lstore X0.here hx (hb hby d_prog_59_method_3_code_48) (l' := #[.val (.ref a1), .val (.int 0), .val (.int 2), .val (.long (((0 : Int64) + (x0 * (-7046029254386353131 : Int64))) + (x1 * (-7046029254386353129 : Int64)))), .second, .val (.long ((own_xs (((0 : Int64) + (x0 * (-7046029254386353131 : Int64))) + (x1 * (-7046029254386353129 : Int64)))) * (-49064778989728563 : Int64))), .second]) rfl ?_
    refine own_lload X0.here hx (hb hby d_prog_59_method_3_code_50) rfl ?_
    refine own_lload X0.here hx (hb hby d_prog_59_method_3_code_52) rfl ?_
    refine own_bipush X0.here hx (33 : Int32) (hb hby d_prog_59_method_3_code_54) rfl ?_
    refine own_lushr X0.here hx (hb hby d_prog_59_method_3_code_56) ?_
    refine own_lxor X0.here hx (hb hby d_prog_59_method_3_code_57) ?_
    show Steps p.tables e below (s₁.setTop (mkF m 58 #[.val (.ref a1), .val (.int 0), .val (.int 2), .val (.long (((0 : Int64) + (x0 * (-7046029254386353131 : Int64))) + (x1 * (-7046029254386353129 : Int64)))), .second, .val (.long ((own_xs (((0 : Int64) + (x0 * (-7046029254386353131 : Int64))) + (x1 * (-7046029254386353129 : Int64)))) * (-49064778989728563 : Int64))), .second] [(.long (own_xs ((own_xs (((0 : Int64) + (x0 * (-7046029254386353131 : Int64))) + (x1 * (-7046029254386353129 : Int64)))) * (-49064778989728563 : Int64))))])) _
    refine X0.ldc2Long hx hown (mvT hZ (hw _ (List.mem_of_getElem? (i := 10) rfl))) (g := (mkF m 58 #[.val (.ref a1), .val (.int 0), .val (.int 2), .val (.long (((0 : Int64) + (x0 * (-7046029254386353131 : Int64))) + (x1 * (-7046029254386353129 : Int64)))), .second, .val (.long ((own_xs (((0 : Int64) + (x0 * (-7046029254386353131 : Int64))) + (x1 * (-7046029254386353129 : Int64)))) * (-49064778989728563 : Int64))), .second] [(.long (own_xs ((own_xs (((0 : Int64) + (x0 * (-7046029254386353131 : Int64))) + (x1 * (-7046029254386353129 : Int64)))) * (-49064778989728563 : Int64))))])) rfl (hb hby d_prog_59_method_3_code_58) _ ?_
    show Steps p.tables e below (s₁.setTop (mkF m 61 #[.val (.ref a1), .val (.int 0), .val (.int 2), .val (.long (((0 : Int64) + (x0 * (-7046029254386353131 : Int64))) + (x1 * (-7046029254386353129 : Int64)))), .second, .val (.long ((own_xs (((0 : Int64) + (x0 * (-7046029254386353131 : Int64))) + (x1 * (-7046029254386353129 : Int64)))) * (-49064778989728563 : Int64))), .second] [(.long (-4265267296055464877)), (.long (own_xs ((own_xs (((0 : Int64) + (x0 * (-7046029254386353131 : Int64))) + (x1 * (-7046029254386353129 : Int64)))) * (-49064778989728563 : Int64))))])) _
    refine own_lmul X0.here hx (hb hby d_prog_59_method_3_code_61) ?_
    refine own_lstore X0.here hx (hb hby d_prog_59_method_3_code_62) (l' := #[.val (.ref a1), .val (.int 0), .val (.int 2), .val (.long (((0 : Int64) + (x0 * (-7046029254386353131 : Int64))) + (x1 * (-7046029254386353129 : Int64)))), .second, .val (.long ((own_xs ((own_xs (((0 : Int64) + (x0 * (-7046029254386353131 : Int64))) + (x1 * (-7046029254386353129 : Int64)))) * (-49064778989728563 : Int64))) * (-4265267296055464877 : Int64))), .second]) rfl ?_
    refine own_lload X0.here hx (hb hby d_prog_59_method_3_code_64) rfl ?_
    refine own_lload X0.here hx (hb hby d_prog_59_method_3_code_66) rfl ?_
    refine own_bipush X0.here hx (33 : Int32) (hb hby d_prog_59_method_3_code_68) rfl ?_
    refine own_lushr X0.here hx (hb hby d_prog_59_method_3_code_70) ?_
    refine own_lxor X0.here hx (hb hby d_prog_59_method_3_code_71) ?_
    show Steps p.tables e below (s₁.setTop (mkF m 72 #[.val (.ref a1), .val (.int 0), .val (.int 2), .val (.long (((0 : Int64) + (x0 * (-7046029254386353131 : Int64))) + (x1 * (-7046029254386353129 : Int64)))), .second, .val (.long ((own_xs ((own_xs (((0 : Int64) + (x0 * (-7046029254386353131 : Int64))) + (x1 * (-7046029254386353129 : Int64)))) * (-49064778989728563 : Int64))) * (-4265267296055464877 : Int64))), .second] [(.long (own_xs ((own_xs ((own_xs (((0 : Int64) + (x0 * (-7046029254386353131 : Int64))) + (x1 * (-7046029254386353129 : Int64)))) * (-49064778989728563 : Int64))) * (-4265267296055464877 : Int64))))])) _
    exact X0.lreturnOut hx Bd.returns (hb hby d_prog_59_method_3_code_72) hr
  · show QF_0_2 Z a1 k1 x0 x1 x2 x3 x4 x5 h0 n0 _ s₁.heap _
    rw [e0]
    exact ⟨rfl, N0, rfl⟩
theorem ef_rmF_0_3 (m : MethodId) (x0 : Addr) (x1 : Int32) (x2 : Int32) : entryFrame m #[(.ref x0), (.int x1), (.int x2)] 7 = mkF m 0 #[.val (.ref x0), .val (.int x1), .val (.int x2), .unset, .unset, .unset, .unset] [] := by first | (simp [entryFrame, mkF, argsToLocals, Value.category]; done) | rfl
def QF_0_3 (Z : State) (a1 : Addr) (k1 : ClassId) (x0 : Int64) (x1 : Int64) (x2 : Int64) (x3 : Int64) (x4 : Int64) (x5 : Int64) (h0 : Heap) (n0 : Nat) (v : Option Value) (h : Heap) (L : List Loc) : Prop := v = some (.long (own_mix ((((0 : Int64) + (x0 * (-7046029254386353131 : Int64))) + (x1 * (-7046029254386353129 : Int64))) + (x2 * (-7046029254386353127 : Int64))))) ∧ Fr n0 L ∧ h = h0
set_option maxRecDepth 65536 in
set_option maxHeartbeats 40000000 in
theorem rmF_0_3 (l : Launch) (Z : State) (a0 : Array Value) (hw : ∀ d ∈ tables_1, d.before a0 Z = true) (ws : List Jvm.Cond) (a1 : Addr) (k1 : ClassId) (x0 : Int64) (x1 : Int64) (x2 : Int64) (x3 : Int64) (x4 : Int64) (x5 : Int64) (h0 : Heap) (n0 : Nat) (Z0 : n0 ≤ h0.size) (V1 : Arv Z h0 a1 k1 .long (6 : Int32) [(.long x0), (.long x1), (.long x2), (.long x3), (.long x4), (.long x5)] (.long (0 : Int64))) :
    MetFree l (⟨"com/example/naqsh/naqsh/mining/TransactionSets", "fingerprint", "([JII)J"⟩ : MethodName) (head1 (Jvm.Cond.code (⟨"com/example/naqsh/naqsh/mining/TransactionSets", "fingerprint", "([JII)J"⟩ : MethodName) prog_59_method_3_code 7 (some .long) :: ws) ({ frames := 0, cells := 0, slots := 0, locals := 0 } : Room)) (fun a U => a = #[(.ref a1), (.int 0), (.int 3)] ∧ Z.Warmed39 U.vm ∧ U.heap = h0) (fun _ _ _ _ _ => True) (fun _ U o U' => ∃ v L, o = .returned v ∧ QF_0_3 Z a1 k1 x0 x1 x2 x3 x4 x5 h0 n0 v U'.heap L ∧ FrameEnd U o U' L ({ frames := 0, cells := 0, slots := 0, locals := 0 } : Room).cells ({ frames := 0, cells := 0, slots := 0, locals := 0 } : Room).slots) := by
  refine MetFree.of_bodySF (plainFor_of_name pn_com_example_naqsh_naqsh_mining_TransactionSets) hisR ?_
  intro p e s m args below meth c s₁ Bd hml0 hP hK
  obtain ⟨rfl, hZ, hh⟩ := hP
  have hx := Bd.exec
  have hby := Bd.bytes
  have hml : c.maxLocals = 7 := hml0
  have hown : s.vm.findClass "com/example/naqsh/naqsh/mining/TransactionSets" = some m.cls := findClass_of_methodNamed Bd.named
  have hnm := (name_of_methodNamed Bd.named Bd.method).1
  have X0 : Stand p l e ({ frames := 0, cells := 0, slots := 0, locals := 0 } : Room) s m #[(.ref a1), (.int 0), (.int 3)] below meth c s₁ [] 0 0 := Stand.of_body Bd
  have e0 : s₁.heap = h0 := by rw [← hh, Bd.state]; rfl
  have N0 := Fr.nil n0
  have pre0 : ∀ tG, Steps p.tables e below (s₁.setTop (mkF m 0 #[.val (.ref a1), .val (.int 0), .val (.int 3), .unset, .unset, .unset, .unset] [])) tG → Steps p.tables e below (s₁.setTop (entryFrame m #[(.ref a1), (.int 0), (.int 3)] 7)) tG := fun tG kG => castTop (ef_rmF_0_3 m a1 (0 : Int32) (3 : Int32)) kG
  obtain ⟨cl6, Ar6, q6, S6, M6, H6, J6⟩ := id V1
  have hin6 : ¬ ((0 : Int32) < 0 ∨ cl6.slots.size ≤ ((0 : Int32)).toNatClampNeg) := inb_of S6 ⟨by decide, by decide⟩
  have hat6 : cl6.slots[((0 : Int32)).toNatClampNeg]? = some (.long x0) := Has.at H6 hin6 rfl
  obtain ⟨cl7, Ar7, q7, S7, M7, H7, J7⟩ := id V1
  have hin7 : ¬ ((1 : Int32) < 0 ∨ cl7.slots.size ≤ ((1 : Int32)).toNatClampNeg) := inb_of S7 ⟨by decide, by decide⟩
  have hat7 : cl7.slots[((1 : Int32)).toNatClampNeg]? = some (.long x1) := Has.at H7 hin7 rfl
  obtain ⟨cl8, Ar8, q8, S8, M8, H8, J8⟩ := id V1
  have hin8 : ¬ ((2 : Int32) < 0 ∨ cl8.slots.size ≤ ((2 : Int32)).toNatClampNeg) := inb_of S8 ⟨by decide, by decide⟩
  have hat8 : cl8.slots[((2 : Int32)).toNatClampNeg]? = some (.long x2) := Has.at H8 hin8 rfl
  obtain ⟨fs, hr, hrun, hended, hW, hsame⟩ := X0.leave (v := some (.long (own_xs ((own_xs ((own_xs ((((0 : Int64) + (x0 * (-7046029254386353131 : Int64))) + (x1 * (-7046029254386353129 : Int64))) + (x2 * (-7046029254386353127 : Int64)))) * (-49064778989728563 : Int64))) * (-4265267296055464877 : Int64))))) (fun h => by rw [Bd.returns] at h; cases h)
  refine ⟨_, _, pre0 _ ?_, hrun, hended, _, _, rfl, ?_, ⟨_, rfl⟩, hW, hsame.mono (by decide) (by decide)⟩
  · refine own_lconst0 X0.here hx (hb hby d_prog_59_method_3_code_0) ?_
    refine own_lstoreN X0.here hx (hb hby d_prog_59_method_3_code_1) (l' := #[.val (.ref a1), .val (.int 0), .val (.int 3), .val (.long 0), .second, .unset, .unset]) rfl ?_
    refine own_iconst X0.here hx (0 : Int32) (hb hby d_prog_59_method_3_code_2) rfl ?_
    refine own_istore X0.here hx (hb hby d_prog_59_method_3_code_3) (l' := #[.val (.ref a1), .val (.int 0), .val (.int 3), .val (.long 0), .second, .val (.int 0), .unset]) rfl ?_
    refine own_iload X0.here hx (hb hby d_prog_59_method_3_code_5) rfl ?_
    refine own_iloadN X0.here hx (hb hby d_prog_59_method_3_code_7) rfl ?_
    refine own_icmpNo X0.here hx (hb hby d_prog_59_method_3_code_8) (tlt (by decide : (0 : Int32) < (3 : Int32))).2.1 ?_
    refine own_lloadN X0.here hx (hb hby d_prog_59_method_3_code_11) rfl ?_
    refine own_aloadN X0.here hx (hb hby d_prog_59_method_3_code_12) rfl rfl ?_
    refine own_iloadN X0.here hx (hb hby d_prog_59_method_3_code_13) rfl ?_
    refine own_iload X0.here hx (hb hby d_prog_59_method_3_code_14) rfl ?_
    refine own_iadd X0.here hx (hb hby d_prog_59_method_3_code_16) ?_
    show Steps p.tables e below (s₁.setTop (mkF m 17 #[.val (.ref a1), .val (.int 0), .val (.int 3), .val (.long 0), .second, .val (.int 0), .unset] [(.int 0), (.ref a1), (.long 0)])) _
    refine X0.laload hx (j := (0 : Int32)) (v := (.long x0)) (by rw [e0]; exact Ar6.1) (State.isArrayOf_alike hZ.alike Ar6.2.1) Ar6.2.2 hin6 hat6 (g := (mkF m 17 #[.val (.ref a1), .val (.int 0), .val (.int 3), .val (.long 0), .second, .val (.int 0), .unset] [(.int 0), (.ref a1), (.long 0)])) rfl rfl (hb hby d_prog_59_method_3_code_17) _ ?_
    show Steps p.tables e below (s₁.setTop (mkF m 18 #[.val (.ref a1), .val (.int 0), .val (.int 3), .val (.long 0), .second, .val (.int 0), .unset] [(.long x0), (.long 0)])) _
    refine X0.ldc2Long hx hown (mvT hZ (hw _ (List.mem_of_getElem? (i := 7) rfl))) (g := (mkF m 18 #[.val (.ref a1), .val (.int 0), .val (.int 3), .val (.long 0), .second, .val (.int 0), .unset] [(.long x0), (.long 0)])) rfl (hb hby d_prog_59_method_3_code_18) _ ?_
    show Steps p.tables e below (s₁.setTop (mkF m 21 #[.val (.ref a1), .val (.int 0), .val (.int 3), .val (.long 0), .second, .val (.int 0), .unset] [(.long (-7046029254386353131)), (.long x0), (.long 0)])) _
    refine X0.ldc2Long hx hown (mvT hZ (hw _ (List.mem_of_getElem? (i := 8) rfl))) (g := (mkF m 21 #[.val (.ref a1), .val (.int 0), .val (.int 3), .val (.long 0), .second, .val (.int 0), .unset] [(.long (-7046029254386353131)), (.long x0), (.long 0)])) rfl (hb hby d_prog_59_method_3_code_21) _ ?_
    show Steps p.tables e below (s₁.setTop (mkF m 24 #[.val (.ref a1), .val (.int 0), .val (.int 3), .val (.long 0), .second, .val (.int 0), .unset] [(.long 2), (.long (-7046029254386353131)), (.long x0), (.long 0)])) _
    refine own_iload X0.here hx (hb hby d_prog_59_method_3_code_24) rfl ?_
    refine own_i2l X0.here hx (hb hby d_prog_59_method_3_code_26) ?_
    show Steps p.tables e below (s₁.setTop (mkF m 27 #[.val (.ref a1), .val (.int 0), .val (.int 3), .val (.long 0), .second, .val (.int 0), .unset] [(.long 0), (.long 2), (.long (-7046029254386353131)), (.long x0), (.long 0)])) _
    refine own_lmul X0.here hx (hb hby d_prog_59_method_3_code_27) ?_
    show Steps p.tables e below (s₁.setTop (mkF m 28 #[.val (.ref a1), .val (.int 0), .val (.int 3), .val (.long 0), .second, .val (.int 0), .unset] [(.long 0), (.long (-7046029254386353131)), (.long x0), (.long 0)])) _
    refine own_ladd X0.here hx (hb hby d_prog_59_method_3_code_28) ?_
    show Steps p.tables e below (s₁.setTop (mkF m 29 #[.val (.ref a1), .val (.int 0), .val (.int 3), .val (.long 0), .second, .val (.int 0), .unset] [(.long (-7046029254386353131)), (.long x0), (.long 0)])) _
    refine own_lmul X0.here hx (hb hby d_prog_59_method_3_code_29) ?_
    refine own_ladd X0.here hx (hb hby d_prog_59_method_3_code_30) ?_
    refine own_lstoreN X0.here hx (hb hby d_prog_59_method_3_code_31) (l' := #[.val (.ref a1), .val (.int 0), .val (.int 3), .val (.long ((0 : Int64) + (x0 * (-7046029254386353131 : Int64)))), .second, .val (.int 0), .unset]) rfl ?_
    refine own_iinc X0.here hx (1 : Int32) (hb hby d_prog_59_method_3_code_32) rfl rfl (l' := #[.val (.ref a1), .val (.int 0), .val (.int 3), .val (.long ((0 : Int64) + (x0 * (-7046029254386353131 : Int64)))), .second, .val (.int 1), .unset]) rfl ?_
    refine own_goto X0.here hx 35 5 rfl (hb hby d_prog_59_method_3_code_35) (by decide) (by decide) ?_
    refine own_iload X0.here hx (hb hby d_prog_59_method_3_code_5) rfl ?_
    refine own_iloadN X0.here hx (hb hby d_prog_59_method_3_code_7) rfl ?_
    refine own_icmpNo X0.here hx (hb hby d_prog_59_method_3_code_8) (tlt (by decide : (1 : Int32) < (3 : Int32))).2.1 ?_
    refine own_lloadN X0.here hx (hb hby d_prog_59_method_3_code_11) rfl ?_
    refine own_aloadN X0.here hx (hb hby d_prog_59_method_3_code_12) rfl rfl ?_
    refine own_iloadN X0.here hx (hb hby d_prog_59_method_3_code_13) rfl ?_
    refine own_iload X0.here hx (hb hby d_prog_59_method_3_code_14) rfl ?_
    refine own_iadd X0.here hx (hb hby d_prog_59_method_3_code_16) ?_
    show Steps p.tables e below (s₁.setTop (mkF m 17 #[.val (.ref a1), .val (.int 0), .val (.int 3), .val (.long ((0 : Int64) + (x0 * (-7046029254386353131 : Int64)))), .second, .val (.int 1), .unset] [(.int 1), (.ref a1), (.long ((0 : Int64) + (x0 * (-7046029254386353131 : Int64))))])) _
    refine X0.laload hx (j := (1 : Int32)) (v := (.long x1)) (by rw [e0]; exact Ar7.1) (State.isArrayOf_alike hZ.alike Ar7.2.1) Ar7.2.2 hin7 hat7 (g := (mkF m 17 #[.val (.ref a1), .val (.int 0), .val (.int 3), .val (.long ((0 : Int64) + (x0 * (-7046029254386353131 : Int64)))), .second, .val (.int 1), .unset] [(.int 1), (.ref a1), (.long ((0 : Int64) + (x0 * (-7046029254386353131 : Int64))))])) rfl rfl (hb hby d_prog_59_method_3_code_17) _ ?_
    show Steps p.tables e below (s₁.setTop (mkF m 18 #[.val (.ref a1), .val (.int 0), .val (.int 3), .val (.long ((0 : Int64) + (x0 * (-7046029254386353131 : Int64)))), .second, .val (.int 1), .unset] [(.long x1), (.long ((0 : Int64) + (x0 * (-7046029254386353131 : Int64))))])) _
    refine X0.ldc2Long hx hown (mvT hZ (hw _ (List.mem_of_getElem? (i := 7) rfl))) (g := (mkF m 18 #[.val (.ref a1), .val (.int 0), .val (.int 3), .val (.long ((0 : Int64) + (x0 * (-7046029254386353131 : Int64)))), .second, .val (.int 1), .unset] [(.long x1), (.long ((0 : Int64) + (x0 * (-7046029254386353131 : Int64))))])) rfl (hb hby d_prog_59_method_3_code_18) _ ?_
    show Steps p.tables e below (s₁.setTop (mkF m 21 #[.val (.ref a1), .val (.int 0), .val (.int 3), .val (.long ((0 : Int64) + (x0 * (-7046029254386353131 : Int64)))), .second, .val (.int 1), .unset] [(.long (-7046029254386353131)), (.long x1), (.long ((0 : Int64) + (x0 * (-7046029254386353131 : Int64))))])) _
    refine X0.ldc2Long hx hown (mvT hZ (hw _ (List.mem_of_getElem? (i := 8) rfl))) (g := (mkF m 21 #[.val (.ref a1), .val (.int 0), .val (.int 3), .val (.long ((0 : Int64) + (x0 * (-7046029254386353131 : Int64)))), .second, .val (.int 1), .unset] [(.long (-7046029254386353131)), (.long x1), (.long ((0 : Int64) + (x0 * (-7046029254386353131 : Int64))))])) rfl (hb hby d_prog_59_method_3_code_21) _ ?_
    show Steps p.tables e below (s₁.setTop (mkF m 24 #[.val (.ref a1), .val (.int 0), .val (.int 3), .val (.long ((0 : Int64) + (x0 * (-7046029254386353131 : Int64)))), .second, .val (.int 1), .unset] [(.long 2), (.long (-7046029254386353131)), (.long x1), (.long ((0 : Int64) + (x0 * (-7046029254386353131 : Int64))))])) _
    refine own_iload X0.here hx (hb hby d_prog_59_method_3_code_24) rfl ?_
    refine own_i2l X0.here hx (hb hby d_prog_59_method_3_code_26) ?_
    show Steps p.tables e below (s₁.setTop (mkF m 27 #[.val (.ref a1), .val (.int 0), .val (.int 3), .val (.long ((0 : Int64) + (x0 * (-7046029254386353131 : Int64)))), .second, .val (.int 1), .unset] [(.long 1), (.long 2), (.long (-7046029254386353131)), (.long x1), (.long ((0 : Int64) + (x0 * (-7046029254386353131 : Int64))))])) _
    refine own_lmul X0.here hx (hb hby d_prog_59_method_3_code_27) ?_
    show Steps p.tables e below (s₁.setTop (mkF m 28 #[.val (.ref a1), .val (.int 0), .val (.int 3), .val (.long ((0 : Int64) + (x0 * (-7046029254386353131 : Int64)))), .second, .val (.int 1), .unset] [(.long 2), (.long (-7046029254386353131)), (.long x1), (.long ((0 : Int64) + (x0 * (-7046029254386353131 : Int64))))])) _
    refine own_ladd X0.here hx (hb hby d_prog_59_method_3_code_28) ?_
    show Steps p.tables e below (s₁.setTop (mkF m 29 #[.val (.ref a1), .val (.int 0), .val (.int 3), .val (.long ((0 : Int64) + (x0 * (-7046029254386353131 : Int64)))), .second, .val (.int 1), .unset] [(.long (-7046029254386353129)), (.long x1), (.long ((0 : Int64) + (x0 * (-7046029254386353131 : Int64))))])) _
    refine own_lmul X0.here hx (hb hby d_prog_59_method_3_code_29) ?_
    refine own_ladd X0.here hx (hb hby d_prog_59_method_3_code_30) ?_
    refine own_lstoreN X0.here hx (hb hby d_prog_59_method_3_code_31) (l' := #[.val (.ref a1), .val (.int 0), .val (.int 3), .val (.long (((0 : Int64) + (x0 * (-7046029254386353131 : Int64))) + (x1 * (-7046029254386353129 : Int64)))), .second, .val (.int 1), .unset]) rfl ?_
    refine own_iinc X0.here hx (1 : Int32) (hb hby d_prog_59_method_3_code_32) rfl rfl (l' := #[.val (.ref a1), .val (.int 0), .val (.int 3), .val (.long (((0 : Int64) + (x0 * (-7046029254386353131 : Int64))) + (x1 * (-7046029254386353129 : Int64)))), .second, .val (.int 2), .unset]) rfl ?_
    refine own_goto X0.here hx 35 5 rfl (hb hby d_prog_59_method_3_code_35) (by decide) (by decide) ?_
    refine own_iload X0.here hx (hb hby d_prog_59_method_3_code_5) rfl ?_
    refine own_iloadN X0.here hx (hb hby d_prog_59_method_3_code_7) rfl ?_
    refine own_icmpNo X0.here hx (hb hby d_prog_59_method_3_code_8) (tlt (by decide : (2 : Int32) < (3 : Int32))).2.1 ?_
    refine own_lloadN X0.here hx (hb hby d_prog_59_method_3_code_11) rfl ?_
    refine own_aloadN X0.here hx (hb hby d_prog_59_method_3_code_12) rfl rfl ?_
    refine own_iloadN X0.here hx (hb hby d_prog_59_method_3_code_13) rfl ?_
    refine own_iload X0.here hx (hb hby d_prog_59_method_3_code_14) rfl ?_
    refine own_iadd X0.here hx (hb hby d_prog_59_method_3_code_16) ?_
    show Steps p.tables e below (s₁.setTop (mkF m 17 #[.val (.ref a1), .val (.int 0), .val (.int 3), .val (.long (((0 : Int64) + (x0 * (-7046029254386353131 : Int64))) + (x1 * (-7046029254386353129 : Int64)))), .second, .val (.int 2), .unset] [(.int 2), (.ref a1), (.long (((0 : Int64) + (x0 * (-7046029254386353131 : Int64))) + (x1 * (-7046029254386353129 : Int64))))])) _
    refine X0.laload hx (j := (2 : Int32)) (v := (.long x2)) (by rw [e0]; exact Ar8.1) (State.isArrayOf_alike hZ.alike Ar8.2.1) Ar8.2.2 hin8 hat8 (g := (mkF m 17 #[.val (.ref a1), .val (.int 0), .val (.int 3), .val (.long (((0 : Int64) + (x0 * (-7046029254386353131 : Int64))) + (x1 * (-7046029254386353129 : Int64)))), .second, .val (.int 2), .unset] [(.int 2), (.ref a1), (.long (((0 : Int64) + (x0 * (-7046029254386353131 : Int64))) + (x1 * (-7046029254386353129 : Int64))))])) rfl rfl (hb hby d_prog_59_method_3_code_17) _ ?_
    show Steps p.tables e below (s₁.setTop (mkF m 18 #[.val (.ref a1), .val (.int 0), .val (.int 3), .val (.long (((0 : Int64) + (x0 * (-7046029254386353131 : Int64))) + (x1 * (-7046029254386353129 : Int64)))), .second, .val (.int 2), .unset] [(.long x2), (.long (((0 : Int64) + (x0 * (-7046029254386353131 : Int64))) + (x1 * (-7046029254386353129 : Int64))))])) _
    refine X0.ldc2Long hx hown (mvT hZ (hw _ (List.mem_of_getElem? (i := 7) rfl))) (g := (mkF m 18 #[.val (.ref a1), .val (.int 0), .val (.int 3), .val (.long (((0 : Int64) + (x0 * (-7046029254386353131 : Int64))) + (x1 * (-7046029254386353129 : Int64)))), .second, .val (.int 2), .unset] [(.long x2), (.long (((0 : Int64) + (x0 * (-7046029254386353131 : Int64))) + (x1 * (-7046029254386353129 : Int64))))])) rfl (hb hby d_prog_59_method_3_code_18) _ ?_
    show Steps p.tables e below (s₁.setTop (mkF m 21 #[.val (.ref a1), .val (.int 0), .val (.int 3), .val (.long (((0 : Int64) + (x0 * (-7046029254386353131 : Int64))) + (x1 * (-7046029254386353129 : Int64)))), .second, .val (.int 2), .unset] [(.long (-7046029254386353131)), (.long x2), (.long (((0 : Int64) + (x0 * (-7046029254386353131 : Int64))) + (x1 * (-7046029254386353129 : Int64))))])) _
    refine X0.ldc2Long hx hown (mvT hZ (hw _ (List.mem_of_getElem? (i := 8) rfl))) (g := (mkF m 21 #[.val (.ref a1), .val (.int 0), .val (.int 3), .val (.long (((0 : Int64) + (x0 * (-7046029254386353131 : Int64))) + (x1 * (-7046029254386353129 : Int64)))), .second, .val (.int 2), .unset] [(.long (-7046029254386353131)), (.long x2), (.long (((0 : Int64) + (x0 * (-7046029254386353131 : Int64))) + (x1 * (-7046029254386353129 : Int64))))])) rfl (hb hby d_prog_59_method_3_code_21) _ ?_
    show Steps p.tables e below (s₁.setTop (mkF m 24 #[.val (.ref a1), .val (.int 0), .val (.int 3), .val (.long (((0 : Int64) + (x0 * (-7046029254386353131 : Int64))) + (x1 * (-7046029254386353129 : Int64)))), .second, .val (.int 2), .unset] [(.long 2), (.long (-7046029254386353131)), (.long x2), (.long (((0 : Int64) + (x0 * (-7046029254386353131 : Int64))) + (x1 * (-7046029254386353129 : Int64))))])) _
    refine own_iload X0.here hx (hb hby d_prog_59_method_3_code_24) rfl ?_
    refine own_i2l X0.here hx (hb hby d_prog_59_method_3_code_26) ?_
    show Steps p.tables e below (s₁.setTop (mkF m 27 #[.val (.ref a1), .val (.int 0), .val (.int 3), .val (.long (((0 : Int64) + (x0 * (-7046029254386353131 : Int64))) + (x1 * (-7046029254386353129 : Int64)))), .second, .val (.int 2), .unset] [(.long 2), (.long 2), (.long (-7046029254386353131)), (.long x2), (.long (((0 : Int64) + (x0 * (-7046029254386353131 : Int64))) + (x1 * (-7046029254386353129 : Int64))))])) _
    refine own_lmul X0.here hx (hb hby d_prog_59_method_3_code_27) ?_
    show Steps p.tables e below (s₁.setTop (mkF m 28 #[.val (.ref a1), .val (.int 0), .val (.int 3), .val (.long (((0 : Int64) + (x0 * (-7046029254386353131 : Int64))) + (x1 * (-7046029254386353129 : Int64)))), .second, .val (.int 2), .unset] [(.long 4), (.long (-7046029254386353131)), (.long x2), (.long (((0 : Int64) + (x0 * (-7046029254386353131 : Int64))) + (x1 * (-7046029254386353129 : Int64))))])) _
    refine own_ladd X0.here hx (hb hby d_prog_59_method_3_code_28) ?_
    show Steps p.tables e below (s₁.setTop (mkF m 29 #[.val (.ref a1), .val (.int 0), .val (.int 3), .val (.long (((0 : Int64) + (x0 * (-7046029254386353131 : Int64))) + (x1 * (-7046029254386353129 : Int64)))), .second, .val (.int 2), .unset] [(.long (-7046029254386353127)), (.long x2), (.long (((0 : Int64) + (x0 * (-7046029254386353131 : Int64))) + (x1 * (-7046029254386353129 : Int64))))])) _
    refine own_lmul X0.here hx (hb hby d_prog_59_method_3_code_29) ?_
    refine own_ladd X0.here hx (hb hby d_prog_59_method_3_code_30) ?_
    refine own_lstoreN X0.here hx (hb hby d_prog_59_method_3_code_31) (l' := #[.val (.ref a1), .val (.int 0), .val (.int 3), .val (.long ((((0 : Int64) + (x0 * (-7046029254386353131 : Int64))) + (x1 * (-7046029254386353129 : Int64))) + (x2 * (-7046029254386353127 : Int64)))), .second, .val (.int 2), .unset]) rfl ?_
    refine own_iinc X0.here hx (1 : Int32) (hb hby d_prog_59_method_3_code_32) rfl rfl (l' := #[.val (.ref a1), .val (.int 0), .val (.int 3), .val (.long ((((0 : Int64) + (x0 * (-7046029254386353131 : Int64))) + (x1 * (-7046029254386353129 : Int64))) + (x2 * (-7046029254386353127 : Int64)))), .second, .val (.int 3), .unset]) rfl ?_
    refine own_goto X0.here hx 35 5 rfl (hb hby d_prog_59_method_3_code_35) (by decide) (by decide) ?_
    refine own_iload X0.here hx (hb hby d_prog_59_method_3_code_5) rfl ?_
    refine own_iloadN X0.here hx (hb hby d_prog_59_method_3_code_7) rfl ?_
    refine own_icmpYes X0.here hx 8 38 rfl (hb hby d_prog_59_method_3_code_8) (flt (by decide : ¬ ((3 : Int32) < (3 : Int32)))).2.1 (by decide) (by decide) ?_
    refine own_lloadN X0.here hx (hb hby d_prog_59_method_3_code_38) rfl ?_
    refine own_lloadN X0.here hx (hb hby d_prog_59_method_3_code_39) rfl ?_
    refine own_bipush X0.here hx (33 : Int32) (hb hby d_prog_59_method_3_code_40) rfl ?_
    refine own_lushr X0.here hx (hb hby d_prog_59_method_3_code_42) ?_
    refine own_lxor X0.here hx (hb hby d_prog_59_method_3_code_43) ?_
    show Steps p.tables e below (s₁.setTop (mkF m 44 #[.val (.ref a1), .val (.int 0), .val (.int 3), .val (.long ((((0 : Int64) + (x0 * (-7046029254386353131 : Int64))) + (x1 * (-7046029254386353129 : Int64))) + (x2 * (-7046029254386353127 : Int64)))), .second, .val (.int 3), .unset] [(.long (own_xs ((((0 : Int64) + (x0 * (-7046029254386353131 : Int64))) + (x1 * (-7046029254386353129 : Int64))) + (x2 * (-7046029254386353127 : Int64)))))])) _
    refine X0.ldc2Long hx hown (mvT hZ (hw _ (List.mem_of_getElem? (i := 9) rfl))) (g := (mkF m 44 #[.val (.ref a1), .val (.int 0), .val (.int 3), .val (.long ((((0 : Int64) + (x0 * (-7046029254386353131 : Int64))) + (x1 * (-7046029254386353129 : Int64))) + (x2 * (-7046029254386353127 : Int64)))), .second, .val (.int 3), .unset] [(.long (own_xs ((((0 : Int64) + (x0 * (-7046029254386353131 : Int64))) + (x1 * (-7046029254386353129 : Int64))) + (x2 * (-7046029254386353127 : Int64)))))])) rfl (hb hby d_prog_59_method_3_code_44) _ ?_
    show Steps p.tables e below (s₁.setTop (mkF m 47 #[.val (.ref a1), .val (.int 0), .val (.int 3), .val (.long ((((0 : Int64) + (x0 * (-7046029254386353131 : Int64))) + (x1 * (-7046029254386353129 : Int64))) + (x2 * (-7046029254386353127 : Int64)))), .second, .val (.int 3), .unset] [(.long (-49064778989728563)), (.long (own_xs ((((0 : Int64) + (x0 * (-7046029254386353131 : Int64))) + (x1 * (-7046029254386353129 : Int64))) + (x2 * (-7046029254386353127 : Int64)))))])) _
    refine own_lmul X0.here hx (hb hby d_prog_59_method_3_code_47) ?_
    refine own_lstore X0.here hx (hb hby d_prog_59_method_3_code_48) (l' := #[.val (.ref a1), .val (.int 0), .val (.int 3), .val (.long ((((0 : Int64) + (x0 * (-7046029254386353131 : Int64))) + (x1 * (-7046029254386353129 : Int64))) + (x2 * (-7046029254386353127 : Int64)))), .second, .val (.long ((own_xs ((((0 : Int64) + (x0 * (-7046029254386353131 : Int64))) + (x1 * (-7046029254386353129 : Int64))) + (x2 * (-7046029254386353127 : Int64)))) * (-49064778989728563 : Int64))), .second]) rfl ?_
    refine own_lload X0.here hx (hb hby d_prog_59_method_3_code_50) rfl ?_
    refine own_lload X0.here hx (hb hby d_prog_59_method_3_code_52) rfl ?_
    refine own_bipush X0.here hx (33 : Int32) (hb hby d_prog_59_method_3_code_54) rfl ?_
    refine own_lushr X0.here hx (hb hby d_prog_59_method_3_code_56) ?_
    refine own_lxor X0.here hx (hb hby d_prog_59_method_3_code_57) ?_
    show Steps p.tables e below (s₁.setTop (mkF m 58 #[.val (.ref a1), .val (.int 0), .val (.int 3), .val (.long ((((0 : Int64) + (x0 * (-7046029254386353131 : Int64))) + (x1 * (-7046029254386353129 : Int64))) + (x2 * (-7046029254386353127 : Int64)))), .second, .val (.long ((own_xs ((((0 : Int64) + (x0 * (-7046029254386353131 : Int64))) + (x1 * (-7046029254386353129 : Int64))) + (x2 * (-7046029254386353127 : Int64)))) * (-49064778989728563 : Int64))), .second] [(.long (own_xs ((own_xs ((((0 : Int64) + (x0 * (-7046029254386353131 : Int64))) + (x1 * (-7046029254386353129 : Int64))) + (x2 * (-7046029254386353127 : Int64)))) * (-49064778989728563 : Int64))))])) _
    refine X0.ldc2Long hx hown (mvT hZ (hw _ (List.mem_of_getElem? (i := 10) rfl))) (g := (mkF m 58 #[.val (.ref a1), .val (.int 0), .val (.int 3), .val (.long ((((0 : Int64) + (x0 * (-7046029254386353131 : Int64))) + (x1 * (-7046029254386353129 : Int64))) + (x2 * (-7046029254386353127 : Int64)))), .second, .val (.long ((own_xs ((((0 : Int64) + (x0 * (-7046029254386353131 : Int64))) + (x1 * (-7046029254386353129 : Int64))) + (x2 * (-7046029254386353127 : Int64)))) * (-49064778989728563 : Int64))), .second] [(.long (own_xs ((own_xs ((((0 : Int64) + (x0 * (-7046029254386353131 : Int64))) + (x1 * (-7046029254386353129 : Int64))) + (x2 * (-7046029254386353127 : Int64)))) * (-49064778989728563 : Int64))))])) rfl (hb hby d_prog_59_method_3_code_58) _ ?_
    show Steps p.tables e below (s₁.setTop (mkF m 61 #[.val (.ref a1), .val (.int 0), .val (.int 3), .val (.long ((((0 : Int64) + (x0 * (-7046029254386353131 : Int64))) + (x1 * (-7046029254386353129 : Int64))) + (x2 * (-7046029254386353127 : Int64)))), .second, .val (.long ((own_xs ((((0 : Int64) + (x0 * (-7046029254386353131 : Int64))) + (x1 * (-7046029254386353129 : Int64))) + (x2 * (-7046029254386353127 : Int64)))) * (-49064778989728563 : Int64))), .second] [(.long (-4265267296055464877)), (.long (own_xs ((own_xs ((((0 : Int64) + (x0 * (-7046029254386353131 : Int64))) + (x1 * (-7046029254386353129 : Int64))) + (x2 * (-7046029254386353127 : Int64)))) * (-49064778989728563 : Int64))))])) _
    refine own_lmul X0.here hx (hb hby d_prog_59_method_3_code_61) ?_
    refine own_lstore X0.here hx (hb hby d_prog_59_method_3_code_62) (l' := #[.val (.ref a1), .val (.int 0), .val (.int 3), .val (.long ((((0 : Int64) + (x0 * (-7046029254386353131 : Int64))) + (x1 * (-7046029254386353129 : Int64))) + (x2 * (-7046029254386353127 : Int64)))), .second, .val (.long ((own_xs ((own_xs ((((0 : Int64) + (x0 * (-7046029254386353131 : Int64))) + (x1 * (-7046029254386353129 : Int64))) + (x2 * (-7046029254386353127 : Int64)))) * (-49064778989728563 : Int64))) * (-4265267296055464877 : Int64))), .second]) rfl ?_
    refine own_lload X0.here hx (hb hby d_prog_59_method_3_code_64) rfl ?_
    refine own_lload X0.here hx (hb hby d_prog_59_method_3_code_66) rfl ?_
    refine own_bipush X0.here hx (33 : Int32) (hb hby d_prog_59_method_3_code_68) rfl ?_
    refine own_lushr X0.here hx (hb hby d_prog_59_method_3_code_70) ?_
    refine own_lxor X0.here hx (hb hby d_prog_59_method_3_code_71) ?_
    show Steps p.tables e below (s₁.setTop (mkF m 72 #[.val (.ref a1), .val (.int 0), .val (.int 3), .val (.long ((((0 : Int64) + (x0 * (-7046029254386353131 : Int64))) + (x1 * (-7046029254386353129 : Int64))) + (x2 * (-7046029254386353127 : Int64)))), .second, .val (.long ((own_xs ((own_xs ((((0 : Int64) + (x0 * (-7046029254386353131 : Int64))) + (x1 * (-7046029254386353129 : Int64))) + (x2 * (-7046029254386353127 : Int64)))) * (-49064778989728563 : Int64))) * (-4265267296055464877 : Int64))), .second] [(.long (own_xs ((own_xs ((own_xs ((((0 : Int64) + (x0 * (-7046029254386353131 : Int64))) + (x1 * (-7046029254386353129 : Int64))) + (x2 * (-7046029254386353127 : Int64)))) * (-49064778989728563 : Int64))) * (-4265267296055464877 : Int64))))])) _
    exact X0.lreturnOut hx Bd.returns (hb hby d_prog_59_method_3_code_72) hr
  · show QF_0_3 Z a1 k1 x0 x1 x2 x3 x4 x5 h0 n0 _ s₁.heap _
    rw [e0]
    exact ⟨rfl, N0, rfl⟩
theorem ef_rmF_0_4 (m : MethodId) (x0 : Addr) (x1 : Int32) (x2 : Int32) : entryFrame m #[(.ref x0), (.int x1), (.int x2)] 7 = mkF m 0 #[.val (.ref x0), .val (.int x1), .val (.int x2), .unset, .unset, .unset, .unset] [] := by first | (simp [entryFrame, mkF, argsToLocals, Value.category]; done) | rfl
def QF_0_4 (Z : State) (a1 : Addr) (k1 : ClassId) (x0 : Int64) (x1 : Int64) (x2 : Int64) (x3 : Int64) (x4 : Int64) (x5 : Int64) (h0 : Heap) (n0 : Nat) (v : Option Value) (h : Heap) (L : List Loc) : Prop := v = some (.long (own_mix (((((0 : Int64) + (x0 * (-7046029254386353131 : Int64))) + (x1 * (-7046029254386353129 : Int64))) + (x2 * (-7046029254386353127 : Int64))) + (x3 * (-7046029254386353125 : Int64))))) ∧ Fr n0 L ∧ h = h0
set_option maxRecDepth 65536 in
set_option maxHeartbeats 40000000 in
theorem rmF_0_4 (l : Launch) (Z : State) (a0 : Array Value) (hw : ∀ d ∈ tables_1, d.before a0 Z = true) (ws : List Jvm.Cond) (a1 : Addr) (k1 : ClassId) (x0 : Int64) (x1 : Int64) (x2 : Int64) (x3 : Int64) (x4 : Int64) (x5 : Int64) (h0 : Heap) (n0 : Nat) (Z0 : n0 ≤ h0.size) (V1 : Arv Z h0 a1 k1 .long (6 : Int32) [(.long x0), (.long x1), (.long x2), (.long x3), (.long x4), (.long x5)] (.long (0 : Int64))) :
    MetFree l (⟨"com/example/naqsh/naqsh/mining/TransactionSets", "fingerprint", "([JII)J"⟩ : MethodName) (head1 (Jvm.Cond.code (⟨"com/example/naqsh/naqsh/mining/TransactionSets", "fingerprint", "([JII)J"⟩ : MethodName) prog_59_method_3_code 7 (some .long) :: ws) ({ frames := 0, cells := 0, slots := 0, locals := 0 } : Room)) (fun a U => a = #[(.ref a1), (.int 0), (.int 4)] ∧ Z.Warmed39 U.vm ∧ U.heap = h0) (fun _ _ _ _ _ => True) (fun _ U o U' => ∃ v L, o = .returned v ∧ QF_0_4 Z a1 k1 x0 x1 x2 x3 x4 x5 h0 n0 v U'.heap L ∧ FrameEnd U o U' L ({ frames := 0, cells := 0, slots := 0, locals := 0 } : Room).cells ({ frames := 0, cells := 0, slots := 0, locals := 0 } : Room).slots) := by
  refine MetFree.of_bodySF (plainFor_of_name pn_com_example_naqsh_naqsh_mining_TransactionSets) hisR ?_
  intro p e s m args below meth c s₁ Bd hml0 hP hK
  obtain ⟨rfl, hZ, hh⟩ := hP
  have hx := Bd.exec
  have hby := Bd.bytes
  have hml : c.maxLocals = 7 := hml0
  have hown : s.vm.findClass "com/example/naqsh/naqsh/mining/TransactionSets" = some m.cls := findClass_of_methodNamed Bd.named
  have hnm := (name_of_methodNamed Bd.named Bd.method).1
  have X0 : Stand p l e ({ frames := 0, cells := 0, slots := 0, locals := 0 } : Room) s m #[(.ref a1), (.int 0), (.int 4)] below meth c s₁ [] 0 0 := Stand.of_body Bd
  have e0 : s₁.heap = h0 := by rw [← hh, Bd.state]; rfl
  have N0 := Fr.nil n0
  have pre0 : ∀ tG, Steps p.tables e below (s₁.setTop (mkF m 0 #[.val (.ref a1), .val (.int 0), .val (.int 4), .unset, .unset, .unset, .unset] [])) tG → Steps p.tables e below (s₁.setTop (entryFrame m #[(.ref a1), (.int 0), (.int 4)] 7)) tG := fun tG kG => castTop (ef_rmF_0_4 m a1 (0 : Int32) (4 : Int32)) kG
  obtain ⟨cl9, Ar9, q9, S9, M9, H9, J9⟩ := id V1
  have hin9 : ¬ ((0 : Int32) < 0 ∨ cl9.slots.size ≤ ((0 : Int32)).toNatClampNeg) := inb_of S9 ⟨by decide, by decide⟩
  have hat9 : cl9.slots[((0 : Int32)).toNatClampNeg]? = some (.long x0) := Has.at H9 hin9 rfl
  obtain ⟨cl10, Ar10, q10, S10, M10, H10, J10⟩ := id V1
  have hin10 : ¬ ((1 : Int32) < 0 ∨ cl10.slots.size ≤ ((1 : Int32)).toNatClampNeg) := inb_of S10 ⟨by decide, by decide⟩
  have hat10 : cl10.slots[((1 : Int32)).toNatClampNeg]? = some (.long x1) := Has.at H10 hin10 rfl
  obtain ⟨cl11, Ar11, q11, S11, M11, H11, J11⟩ := id V1
  have hin11 : ¬ ((2 : Int32) < 0 ∨ cl11.slots.size ≤ ((2 : Int32)).toNatClampNeg) := inb_of S11 ⟨by decide, by decide⟩
  have hat11 : cl11.slots[((2 : Int32)).toNatClampNeg]? = some (.long x2) := Has.at H11 hin11 rfl
  obtain ⟨cl12, Ar12, q12, S12, M12, H12, J12⟩ := id V1
  have hin12 : ¬ ((3 : Int32) < 0 ∨ cl12.slots.size ≤ ((3 : Int32)).toNatClampNeg) := inb_of S12 ⟨by decide, by decide⟩
  have hat12 : cl12.slots[((3 : Int32)).toNatClampNeg]? = some (.long x3) := Has.at H12 hin12 rfl
  obtain ⟨fs, hr, hrun, hended, hW, hsame⟩ := X0.leave (v := some (.long (own_xs ((own_xs ((own_xs (((((0 : Int64) + (x0 * (-7046029254386353131 : Int64))) + (x1 * (-7046029254386353129 : Int64))) + (x2 * (-7046029254386353127 : Int64))) + (x3 * (-7046029254386353125 : Int64)))) * (-49064778989728563 : Int64))) * (-4265267296055464877 : Int64))))) (fun h => by rw [Bd.returns] at h; cases h)
  refine ⟨_, _, pre0 _ ?_, hrun, hended, _, _, rfl, ?_, ⟨_, rfl⟩, hW, hsame.mono (by decide) (by decide)⟩
  · refine own_lconst0 X0.here hx (hb hby d_prog_59_method_3_code_0) ?_
    refine own_lstoreN X0.here hx (hb hby d_prog_59_method_3_code_1) (l' := #[.val (.ref a1), .val (.int 0), .val (.int 4), .val (.long 0), .second, .unset, .unset]) rfl ?_
    refine own_iconst X0.here hx (0 : Int32) (hb hby d_prog_59_method_3_code_2) rfl ?_
    refine own_istore X0.here hx (hb hby d_prog_59_method_3_code_3) (l' := #[.val (.ref a1), .val (.int 0), .val (.int 4), .val (.long 0), .second, .val (.int 0), .unset]) rfl ?_
    refine own_iload X0.here hx (hb hby d_prog_59_method_3_code_5) rfl ?_
    refine own_iloadN X0.here hx (hb hby d_prog_59_method_3_code_7) rfl ?_
    refine own_icmpNo X0.here hx (hb hby d_prog_59_method_3_code_8) (tlt (by decide : (0 : Int32) < (4 : Int32))).2.1 ?_
    refine own_lloadN X0.here hx (hb hby d_prog_59_method_3_code_11) rfl ?_
    refine own_aloadN X0.here hx (hb hby d_prog_59_method_3_code_12) rfl rfl ?_
    refine own_iloadN X0.here hx (hb hby d_prog_59_method_3_code_13) rfl ?_
    refine own_iload X0.here hx (hb hby d_prog_59_method_3_code_14) rfl ?_
    refine own_iadd X0.here hx (hb hby d_prog_59_method_3_code_16) ?_
    show Steps p.tables e below (s₁.setTop (mkF m 17 #[.val (.ref a1), .val (.int 0), .val (.int 4), .val (.long 0), .second, .val (.int 0), .unset] [(.int 0), (.ref a1), (.long 0)])) _
    refine X0.laload hx (j := (0 : Int32)) (v := (.long x0)) (by rw [e0]; exact Ar9.1) (State.isArrayOf_alike hZ.alike Ar9.2.1) Ar9.2.2 hin9 hat9 (g := (mkF m 17 #[.val (.ref a1), .val (.int 0), .val (.int 4), .val (.long 0), .second, .val (.int 0), .unset] [(.int 0), (.ref a1), (.long 0)])) rfl rfl (hb hby d_prog_59_method_3_code_17) _ ?_
    show Steps p.tables e below (s₁.setTop (mkF m 18 #[.val (.ref a1), .val (.int 0), .val (.int 4), .val (.long 0), .second, .val (.int 0), .unset] [(.long x0), (.long 0)])) _
    refine X0.ldc2Long hx hown (mvT hZ (hw _ (List.mem_of_getElem? (i := 7) rfl))) (g := (mkF m 18 #[.val (.ref a1), .val (.int 0), .val (.int 4), .val (.long 0), .second, .val (.int 0), .unset] [(.long x0), (.long 0)])) rfl (hb hby d_prog_59_method_3_code_18) _ ?_
    show Steps p.tables e below (s₁.setTop (mkF m 21 #[.val (.ref a1), .val (.int 0), .val (.int 4), .val (.long 0), .second, .val (.int 0), .unset] [(.long (-7046029254386353131)), (.long x0), (.long 0)])) _
    refine X0.ldc2Long hx hown (mvT hZ (hw _ (List.mem_of_getElem? (i := 8) rfl))) (g := (mkF m 21 #[.val (.ref a1), .val (.int 0), .val (.int 4), .val (.long 0), .second, .val (.int 0), .unset] [(.long (-7046029254386353131)), (.long x0), (.long 0)])) rfl (hb hby d_prog_59_method_3_code_21) _ ?_
    show Steps p.tables e below (s₁.setTop (mkF m 24 #[.val (.ref a1), .val (.int 0), .val (.int 4), .val (.long 0), .second, .val (.int 0), .unset] [(.long 2), (.long (-7046029254386353131)), (.long x0), (.long 0)])) _
    refine own_iload X0.here hx (hb hby d_prog_59_method_3_code_24) rfl ?_
    refine own_i2l X0.here hx (hb hby d_prog_59_method_3_code_26) ?_
    show Steps p.tables e below (s₁.setTop (mkF m 27 #[.val (.ref a1), .val (.int 0), .val (.int 4), .val (.long 0), .second, .val (.int 0), .unset] [(.long 0), (.long 2), (.long (-7046029254386353131)), (.long x0), (.long 0)])) _
    refine own_lmul X0.here hx (hb hby d_prog_59_method_3_code_27) ?_
    show Steps p.tables e below (s₁.setTop (mkF m 28 #[.val (.ref a1), .val (.int 0), .val (.int 4), .val (.long 0), .second, .val (.int 0), .unset] [(.long 0), (.long (-7046029254386353131)), (.long x0), (.long 0)])) _
    refine own_ladd X0.here hx (hb hby d_prog_59_method_3_code_28) ?_
    show Steps p.tables e below (s₁.setTop (mkF m 29 #[.val (.ref a1), .val (.int 0), .val (.int 4), .val (.long 0), .second, .val (.int 0), .unset] [(.long (-7046029254386353131)), (.long x0), (.long 0)])) _
    refine own_lmul X0.here hx (hb hby d_prog_59_method_3_code_29) ?_
    refine own_ladd X0.here hx (hb hby d_prog_59_method_3_code_30) ?_
    refine own_lstoreN X0.here hx (hb hby d_prog_59_method_3_code_31) (l' := #[.val (.ref a1), .val (.int 0), .val (.int 4), .val (.long ((0 : Int64) + (x0 * (-7046029254386353131 : Int64)))), .second, .val (.int 0), .unset]) rfl ?_
    refine own_iinc X0.here hx (1 : Int32) (hb hby d_prog_59_method_3_code_32) rfl rfl (l' := #[.val (.ref a1), .val (.int 0), .val (.int 4), .val (.long ((0 : Int64) + (x0 * (-7046029254386353131 : Int64)))), .second, .val (.int 1), .unset]) rfl ?_
    refine own_goto X0.here hx 35 5 rfl (hb hby d_prog_59_method_3_code_35) (by decide) (by decide) ?_
    refine own_iload X0.here hx (hb hby d_prog_59_method_3_code_5) rfl ?_
    refine own_iloadN X0.here hx (hb hby d_prog_59_method_3_code_7) rfl ?_
    refine own_icmpNo X0.here hx (hb hby d_prog_59_method_3_code_8) (tlt (by decide : (1 : Int32) < (4 : Int32))).2.1 ?_
    refine own_lloadN X0.here hx (hb hby d_prog_59_method_3_code_11) rfl ?_
    refine own_aloadN X0.here hx (hb hby d_prog_59_method_3_code_12) rfl rfl ?_
    refine own_iloadN X0.here hx (hb hby d_prog_59_method_3_code_13) rfl ?_
    refine own_iload X0.here hx (hb hby d_prog_59_method_3_code_14) rfl ?_
    refine own_iadd X0.here hx (hb hby d_prog_59_method_3_code_16) ?_
    show Steps p.tables e below (s₁.setTop (mkF m 17 #[.val (.ref a1), .val (.int 0), .val (.int 4), .val (.long ((0 : Int64) + (x0 * (-7046029254386353131 : Int64)))), .second, .val (.int 1), .unset] [(.int 1), (.ref a1), (.long ((0 : Int64) + (x0 * (-7046029254386353131 : Int64))))])) _
    refine X0.laload hx (j := (1 : Int32)) (v := (.long x1)) (by rw [e0]; exact Ar10.1) (State.isArrayOf_alike hZ.alike Ar10.2.1) Ar10.2.2 hin10 hat10 (g := (mkF m 17 #[.val (.ref a1), .val (.int 0), .val (.int 4), .val (.long ((0 : Int64) + (x0 * (-7046029254386353131 : Int64)))), .second, .val (.int 1), .unset] [(.int 1), (.ref a1), (.long ((0 : Int64) + (x0 * (-7046029254386353131 : Int64))))])) rfl rfl (hb hby d_prog_59_method_3_code_17) _ ?_
    show Steps p.tables e below (s₁.setTop (mkF m 18 #[.val (.ref a1), .val (.int 0), .val (.int 4), .val (.long ((0 : Int64) + (x0 * (-7046029254386353131 : Int64)))), .second, .val (.int 1), .unset] [(.long x1), (.long ((0 : Int64) + (x0 * (-7046029254386353131 : Int64))))])) _
    refine X0.ldc2Long hx hown (mvT hZ (hw _ (List.mem_of_getElem? (i := 7) rfl))) (g := (mkF m 18 #[.val (.ref a1), .val (.int 0), .val (.int 4), .val (.long ((0 : Int64) + (x0 * (-7046029254386353131 : Int64)))), .second, .val (.int 1), .unset] [(.long x1), (.long ((0 : Int64) + (x0 * (-7046029254386353131 : Int64))))])) rfl (hb hby d_prog_59_method_3_code_18) _ ?_
    show Steps p.tables e below (s₁.setTop (mkF m 21 #[.val (.ref a1), .val (.int 0), .val (.int 4), .val (.long ((0 : Int64) + (x0 * (-7046029254386353131 : Int64)))), .second, .val (.int 1), .unset] [(.long (-7046029254386353131)), (.long x1), (.long ((0 : Int64) + (x0 * (-7046029254386353131 : Int64))))])) _
    refine X0.ldc2Long hx hown (mvT hZ (hw _ (List.mem_of_getElem? (i := 8) rfl))) (g := (mkF m 21 #[.val (.ref a1), .val (.int 0), .val (.int 4), .val (.long ((0 : Int64) + (x0 * (-7046029254386353131 : Int64)))), .second, .val (.int 1), .unset] [(.long (-7046029254386353131)), (.long x1), (.long ((0 : Int64) + (x0 * (-7046029254386353131 : Int64))))])) rfl (hb hby d_prog_59_method_3_code_21) _ ?_
    show Steps p.tables e below (s₁.setTop (mkF m 24 #[.val (.ref a1), .val (.int 0), .val (.int 4), .val (.long ((0 : Int64) + (x0 * (-7046029254386353131 : Int64)))), .second, .val (.int 1), .unset] [(.long 2), (.long (-7046029254386353131)), (.long x1), (.long ((0 : Int64) + (x0 * (-7046029254386353131 : Int64))))])) _
    refine own_iload X0.here hx (hb hby d_prog_59_method_3_code_24) rfl ?_
    refine own_i2l X0.here hx (hb hby d_prog_59_method_3_code_26) ?_
    show Steps p.tables e below (s₁.setTop (mkF m 27 #[.val (.ref a1), .val (.int 0), .val (.int 4), .val (.long ((0 : Int64) + (x0 * (-7046029254386353131 : Int64)))), .second, .val (.int 1), .unset] [(.long 1), (.long 2), (.long (-7046029254386353131)), (.long x1), (.long ((0 : Int64) + (x0 * (-7046029254386353131 : Int64))))])) _
    refine own_lmul X0.here hx (hb hby d_prog_59_method_3_code_27) ?_
    show Steps p.tables e below (s₁.setTop (mkF m 28 #[.val (.ref a1), .val (.int 0), .val (.int 4), .val (.long ((0 : Int64) + (x0 * (-7046029254386353131 : Int64)))), .second, .val (.int 1), .unset] [(.long 2), (.long (-7046029254386353131)), (.long x1), (.long ((0 : Int64) + (x0 * (-7046029254386353131 : Int64))))])) _
    refine own_ladd X0.here hx (hb hby d_prog_59_method_3_code_28) ?_
    show Steps p.tables e below (s₁.setTop (mkF m 29 #[.val (.ref a1), .val (.int 0), .val (.int 4), .val (.long ((0 : Int64) + (x0 * (-7046029254386353131 : Int64)))), .second, .val (.int 1), .unset] [(.long (-7046029254386353129)), (.long x1), (.long ((0 : Int64) + (x0 * (-7046029254386353131 : Int64))))])) _
    refine own_lmul X0.here hx (hb hby d_prog_59_method_3_code_29) ?_
    refine own_ladd X0.here hx (hb hby d_prog_59_method_3_code_30) ?_
    refine own_lstoreN X0.here hx (hb hby d_prog_59_method_3_code_31) (l' := #[.val (.ref a1), .val (.int 0), .val (.int 4), .val (.long (((0 : Int64) + (x0 * (-7046029254386353131 : Int64))) + (x1 * (-7046029254386353129 : Int64)))), .second, .val (.int 1), .unset]) rfl ?_
    refine own_iinc X0.here hx (1 : Int32) (hb hby d_prog_59_method_3_code_32) rfl rfl (l' := #[.val (.ref a1), .val (.int 0), .val (.int 4), .val (.long (((0 : Int64) + (x0 * (-7046029254386353131 : Int64))) + (x1 * (-7046029254386353129 : Int64)))), .second, .val (.int 2), .unset]) rfl ?_
    refine own_goto X0.here hx 35 5 rfl (hb hby d_prog_59_method_3_code_35) (by decide) (by decide) ?_
    refine own_iload X0.here hx (hb hby d_prog_59_method_3_code_5) rfl ?_
    refine own_iloadN X0.here hx (hb hby d_prog_59_method_3_code_7) rfl ?_
    refine own_icmpNo X0.here hx (hb hby d_prog_59_method_3_code_8) (tlt (by decide : (2 : Int32) < (4 : Int32))).2.1 ?_
    refine own_lloadN X0.here hx (hb hby d_prog_59_method_3_code_11) rfl ?_
    refine own_aloadN X0.here hx (hb hby d_prog_59_method_3_code_12) rfl rfl ?_
    refine own_iloadN X0.here hx (hb hby d_prog_59_method_3_code_13) rfl ?_
    refine own_iload X0.here hx (hb hby d_prog_59_method_3_code_14) rfl ?_
    refine own_iadd X0.here hx (hb hby d_prog_59_method_3_code_16) ?_
    show Steps p.tables e below (s₁.setTop (mkF m 17 #[.val (.ref a1), .val (.int 0), .val (.int 4), .val (.long (((0 : Int64) + (x0 * (-7046029254386353131 : Int64))) + (x1 * (-7046029254386353129 : Int64)))), .second, .val (.int 2), .unset] [(.int 2), (.ref a1), (.long (((0 : Int64) + (x0 * (-7046029254386353131 : Int64))) + (x1 * (-7046029254386353129 : Int64))))])) _
    refine X0.laload hx (j := (2 : Int32)) (v := (.long x2)) (by rw [e0]; exact Ar11.1) (State.isArrayOf_alike hZ.alike Ar11.2.1) Ar11.2.2 hin11 hat11 (g := (mkF m 17 #[.val (.ref a1), .val (.int 0), .val (.int 4), .val (.long (((0 : Int64) + (x0 * (-7046029254386353131 : Int64))) + (x1 * (-7046029254386353129 : Int64)))), .second, .val (.int 2), .unset] [(.int 2), (.ref a1), (.long (((0 : Int64) + (x0 * (-7046029254386353131 : Int64))) + (x1 * (-7046029254386353129 : Int64))))])) rfl rfl (hb hby d_prog_59_method_3_code_17) _ ?_
    show Steps p.tables e below (s₁.setTop (mkF m 18 #[.val (.ref a1), .val (.int 0), .val (.int 4), .val (.long (((0 : Int64) + (x0 * (-7046029254386353131 : Int64))) + (x1 * (-7046029254386353129 : Int64)))), .second, .val (.int 2), .unset] [(.long x2), (.long (((0 : Int64) + (x0 * (-7046029254386353131 : Int64))) + (x1 * (-7046029254386353129 : Int64))))])) _
    refine X0.ldc2Long hx hown (mvT hZ (hw _ (List.mem_of_getElem? (i := 7) rfl))) (g := (mkF m 18 #[.val (.ref a1), .val (.int 0), .val (.int 4), .val (.long (((0 : Int64) + (x0 * (-7046029254386353131 : Int64))) + (x1 * (-7046029254386353129 : Int64)))), .second, .val (.int 2), .unset] [(.long x2), (.long (((0 : Int64) + (x0 * (-7046029254386353131 : Int64))) + (x1 * (-7046029254386353129 : Int64))))])) rfl (hb hby d_prog_59_method_3_code_18) _ ?_
    show Steps p.tables e below (s₁.setTop (mkF m 21 #[.val (.ref a1), .val (.int 0), .val (.int 4), .val (.long (((0 : Int64) + (x0 * (-7046029254386353131 : Int64))) + (x1 * (-7046029254386353129 : Int64)))), .second, .val (.int 2), .unset] [(.long (-7046029254386353131)), (.long x2), (.long (((0 : Int64) + (x0 * (-7046029254386353131 : Int64))) + (x1 * (-7046029254386353129 : Int64))))])) _
    refine X0.ldc2Long hx hown (mvT hZ (hw _ (List.mem_of_getElem? (i := 8) rfl))) (g := (mkF m 21 #[.val (.ref a1), .val (.int 0), .val (.int 4), .val (.long (((0 : Int64) + (x0 * (-7046029254386353131 : Int64))) + (x1 * (-7046029254386353129 : Int64)))), .second, .val (.int 2), .unset] [(.long (-7046029254386353131)), (.long x2), (.long (((0 : Int64) + (x0 * (-7046029254386353131 : Int64))) + (x1 * (-7046029254386353129 : Int64))))])) rfl (hb hby d_prog_59_method_3_code_21) _ ?_
    show Steps p.tables e below (s₁.setTop (mkF m 24 #[.val (.ref a1), .val (.int 0), .val (.int 4), .val (.long (((0 : Int64) + (x0 * (-7046029254386353131 : Int64))) + (x1 * (-7046029254386353129 : Int64)))), .second, .val (.int 2), .unset] [(.long 2), (.long (-7046029254386353131)), (.long x2), (.long (((0 : Int64) + (x0 * (-7046029254386353131 : Int64))) + (x1 * (-7046029254386353129 : Int64))))])) _
    refine own_iload X0.here hx (hb hby d_prog_59_method_3_code_24) rfl ?_
    refine own_i2l X0.here hx (hb hby d_prog_59_method_3_code_26) ?_
    show Steps p.tables e below (s₁.setTop (mkF m 27 #[.val (.ref a1), .val (.int 0), .val (.int 4), .val (.long (((0 : Int64) + (x0 * (-7046029254386353131 : Int64))) + (x1 * (-7046029254386353129 : Int64)))), .second, .val (.int 2), .unset] [(.long 2), (.long 2), (.long (-7046029254386353131)), (.long x2), (.long (((0 : Int64) + (x0 * (-7046029254386353131 : Int64))) + (x1 * (-7046029254386353129 : Int64))))])) _
    refine own_lmul X0.here hx (hb hby d_prog_59_method_3_code_27) ?_
    show Steps p.tables e below (s₁.setTop (mkF m 28 #[.val (.ref a1), .val (.int 0), .val (.int 4), .val (.long (((0 : Int64) + (x0 * (-7046029254386353131 : Int64))) + (x1 * (-7046029254386353129 : Int64)))), .second, .val (.int 2), .unset] [(.long 4), (.long (-7046029254386353131)), (.long x2), (.long (((0 : Int64) + (x0 * (-7046029254386353131 : Int64))) + (x1 * (-7046029254386353129 : Int64))))])) _
    refine own_ladd X0.here hx (hb hby d_prog_59_method_3_code_28) ?_
    show Steps p.tables e below (s₁.setTop (mkF m 29 #[.val (.ref a1), .val (.int 0), .val (.int 4), .val (.long (((0 : Int64) + (x0 * (-7046029254386353131 : Int64))) + (x1 * (-7046029254386353129 : Int64)))), .second, .val (.int 2), .unset] [(.long (-7046029254386353127)), (.long x2), (.long (((0 : Int64) + (x0 * (-7046029254386353131 : Int64))) + (x1 * (-7046029254386353129 : Int64))))])) _
    refine own_lmul X0.here hx (hb hby d_prog_59_method_3_code_29) ?_
    refine own_ladd X0.here hx (hb hby d_prog_59_method_3_code_30) ?_
    refine own_lstoreN X0.here hx (hb hby d_prog_59_method_3_code_31) (l' := #[.val (.ref a1), .val (.int 0), .val (.int 4), .val (.long ((((0 : Int64) + (x0 * (-7046029254386353131 : Int64))) + (x1 * (-7046029254386353129 : Int64))) + (x2 * (-7046029254386353127 : Int64)))), .second, .val (.int 2), .unset]) rfl ?_
    refine own_iinc X0.here hx (1 : Int32) (hb hby d_prog_59_method_3_code_32) rfl rfl (l' := #[.val (.ref a1), .val (.int 0), .val (.int 4), .val (.long ((((0 : Int64) + (x0 * (-7046029254386353131 : Int64))) + (x1 * (-7046029254386353129 : Int64))) + (x2 * (-7046029254386353127 : Int64)))), .second, .val (.int 3), .unset]) rfl ?_
    refine own_goto X0.here hx 35 5 rfl (hb hby d_prog_59_method_3_code_35) (by decide) (by decide) ?_
    refine own_iload X0.here hx (hb hby d_prog_59_method_3_code_5) rfl ?_
    refine own_iloadN X0.here hx (hb hby d_prog_59_method_3_code_7) rfl ?_
    refine own_icmpNo X0.here hx (hb hby d_prog_59_method_3_code_8) (tlt (by decide : (3 : Int32) < (4 : Int32))).2.1 ?_
    refine own_lloadN X0.here hx (hb hby d_prog_59_method_3_code_11) rfl ?_
    refine own_aloadN X0.here hx (hb hby d_prog_59_method_3_code_12) rfl rfl ?_
    refine own_iloadN X0.here hx (hb hby d_prog_59_method_3_code_13) rfl ?_
    refine own_iload X0.here hx (hb hby d_prog_59_method_3_code_14) rfl ?_
    refine own_iadd X0.here hx (hb hby d_prog_59_method_3_code_16) ?_
    show Steps p.tables e below (s₁.setTop (mkF m 17 #[.val (.ref a1), .val (.int 0), .val (.int 4), .val (.long ((((0 : Int64) + (x0 * (-7046029254386353131 : Int64))) + (x1 * (-7046029254386353129 : Int64))) + (x2 * (-7046029254386353127 : Int64)))), .second, .val (.int 3), .unset] [(.int 3), (.ref a1), (.long ((((0 : Int64) + (x0 * (-7046029254386353131 : Int64))) + (x1 * (-7046029254386353129 : Int64))) + (x2 * (-7046029254386353127 : Int64))))])) _
    refine X0.laload hx (j := (3 : Int32)) (v := (.long x3)) (by rw [e0]; exact Ar12.1) (State.isArrayOf_alike hZ.alike Ar12.2.1) Ar12.2.2 hin12 hat12 (g := (mkF m 17 #[.val (.ref a1), .val (.int 0), .val (.int 4), .val (.long ((((0 : Int64) + (x0 * (-7046029254386353131 : Int64))) + (x1 * (-7046029254386353129 : Int64))) + (x2 * (-7046029254386353127 : Int64)))), .second, .val (.int 3), .unset] [(.int 3), (.ref a1), (.long ((((0 : Int64) + (x0 * (-7046029254386353131 : Int64))) + (x1 * (-7046029254386353129 : Int64))) + (x2 * (-7046029254386353127 : Int64))))])) rfl rfl (hb hby d_prog_59_method_3_code_17) _ ?_
    show Steps p.tables e below (s₁.setTop (mkF m 18 #[.val (.ref a1), .val (.int 0), .val (.int 4), .val (.long ((((0 : Int64) + (x0 * (-7046029254386353131 : Int64))) + (x1 * (-7046029254386353129 : Int64))) + (x2 * (-7046029254386353127 : Int64)))), .second, .val (.int 3), .unset] [(.long x3), (.long ((((0 : Int64) + (x0 * (-7046029254386353131 : Int64))) + (x1 * (-7046029254386353129 : Int64))) + (x2 * (-7046029254386353127 : Int64))))])) _
    refine X0.ldc2Long hx hown (mvT hZ (hw _ (List.mem_of_getElem? (i := 7) rfl))) (g := (mkF m 18 #[.val (.ref a1), .val (.int 0), .val (.int 4), .val (.long ((((0 : Int64) + (x0 * (-7046029254386353131 : Int64))) + (x1 * (-7046029254386353129 : Int64))) + (x2 * (-7046029254386353127 : Int64)))), .second, .val (.int 3), .unset] [(.long x3), (.long ((((0 : Int64) + (x0 * (-7046029254386353131 : Int64))) + (x1 * (-7046029254386353129 : Int64))) + (x2 * (-7046029254386353127 : Int64))))])) rfl (hb hby d_prog_59_method_3_code_18) _ ?_
    show Steps p.tables e below (s₁.setTop (mkF m 21 #[.val (.ref a1), .val (.int 0), .val (.int 4), .val (.long ((((0 : Int64) + (x0 * (-7046029254386353131 : Int64))) + (x1 * (-7046029254386353129 : Int64))) + (x2 * (-7046029254386353127 : Int64)))), .second, .val (.int 3), .unset] [(.long (-7046029254386353131)), (.long x3), (.long ((((0 : Int64) + (x0 * (-7046029254386353131 : Int64))) + (x1 * (-7046029254386353129 : Int64))) + (x2 * (-7046029254386353127 : Int64))))])) _
    refine X0.ldc2Long hx hown (mvT hZ (hw _ (List.mem_of_getElem? (i := 8) rfl))) (g := (mkF m 21 #[.val (.ref a1), .val (.int 0), .val (.int 4), .val (.long ((((0 : Int64) + (x0 * (-7046029254386353131 : Int64))) + (x1 * (-7046029254386353129 : Int64))) + (x2 * (-7046029254386353127 : Int64)))), .second, .val (.int 3), .unset] [(.long (-7046029254386353131)), (.long x3), (.long ((((0 : Int64) + (x0 * (-7046029254386353131 : Int64))) + (x1 * (-7046029254386353129 : Int64))) + (x2 * (-7046029254386353127 : Int64))))])) rfl (hb hby d_prog_59_method_3_code_21) _ ?_
    show Steps p.tables e below (s₁.setTop (mkF m 24 #[.val (.ref a1), .val (.int 0), .val (.int 4), .val (.long ((((0 : Int64) + (x0 * (-7046029254386353131 : Int64))) + (x1 * (-7046029254386353129 : Int64))) + (x2 * (-7046029254386353127 : Int64)))), .second, .val (.int 3), .unset] [(.long 2), (.long (-7046029254386353131)), (.long x3), (.long ((((0 : Int64) + (x0 * (-7046029254386353131 : Int64))) + (x1 * (-7046029254386353129 : Int64))) + (x2 * (-7046029254386353127 : Int64))))])) _
    refine own_iload X0.here hx (hb hby d_prog_59_method_3_code_24) rfl ?_
    refine own_i2l X0.here hx (hb hby d_prog_59_method_3_code_26) ?_
    show Steps p.tables e below (s₁.setTop (mkF m 27 #[.val (.ref a1), .val (.int 0), .val (.int 4), .val (.long ((((0 : Int64) + (x0 * (-7046029254386353131 : Int64))) + (x1 * (-7046029254386353129 : Int64))) + (x2 * (-7046029254386353127 : Int64)))), .second, .val (.int 3), .unset] [(.long 3), (.long 2), (.long (-7046029254386353131)), (.long x3), (.long ((((0 : Int64) + (x0 * (-7046029254386353131 : Int64))) + (x1 * (-7046029254386353129 : Int64))) + (x2 * (-7046029254386353127 : Int64))))])) _
    refine own_lmul X0.here hx (hb hby d_prog_59_method_3_code_27) ?_
    show Steps p.tables e below (s₁.setTop (mkF m 28 #[.val (.ref a1), .val (.int 0), .val (.int 4), .val (.long ((((0 : Int64) + (x0 * (-7046029254386353131 : Int64))) + (x1 * (-7046029254386353129 : Int64))) + (x2 * (-7046029254386353127 : Int64)))), .second, .val (.int 3), .unset] [(.long 6), (.long (-7046029254386353131)), (.long x3), (.long ((((0 : Int64) + (x0 * (-7046029254386353131 : Int64))) + (x1 * (-7046029254386353129 : Int64))) + (x2 * (-7046029254386353127 : Int64))))])) _
    refine own_ladd X0.here hx (hb hby d_prog_59_method_3_code_28) ?_
    show Steps p.tables e below (s₁.setTop (mkF m 29 #[.val (.ref a1), .val (.int 0), .val (.int 4), .val (.long ((((0 : Int64) + (x0 * (-7046029254386353131 : Int64))) + (x1 * (-7046029254386353129 : Int64))) + (x2 * (-7046029254386353127 : Int64)))), .second, .val (.int 3), .unset] [(.long (-7046029254386353125)), (.long x3), (.long ((((0 : Int64) + (x0 * (-7046029254386353131 : Int64))) + (x1 * (-7046029254386353129 : Int64))) + (x2 * (-7046029254386353127 : Int64))))])) _
    refine own_lmul X0.here hx (hb hby d_prog_59_method_3_code_29) ?_
    refine own_ladd X0.here hx (hb hby d_prog_59_method_3_code_30) ?_
    refine own_lstoreN X0.here hx (hb hby d_prog_59_method_3_code_31) (l' := #[.val (.ref a1), .val (.int 0), .val (.int 4), .val (.long (((((0 : Int64) + (x0 * (-7046029254386353131 : Int64))) + (x1 * (-7046029254386353129 : Int64))) + (x2 * (-7046029254386353127 : Int64))) + (x3 * (-7046029254386353125 : Int64)))), .second, .val (.int 3), .unset]) rfl ?_
    refine own_iinc X0.here hx (1 : Int32) (hb hby d_prog_59_method_3_code_32) rfl rfl (l' := #[.val (.ref a1), .val (.int 0), .val (.int 4), .val (.long (((((0 : Int64) + (x0 * (-7046029254386353131 : Int64))) + (x1 * (-7046029254386353129 : Int64))) + (x2 * (-7046029254386353127 : Int64))) + (x3 * (-7046029254386353125 : Int64)))), .second, .val (.int 4), .unset]) rfl ?_
    refine own_goto X0.here hx 35 5 rfl (hb hby d_prog_59_method_3_code_35) (by decide) (by decide) ?_
    refine own_iload X0.here hx (hb hby d_prog_59_method_3_code_5) rfl ?_
    refine own_iloadN X0.here hx (hb hby d_prog_59_method_3_code_7) rfl ?_
    refine own_icmpYes X0.here hx 8 38 rfl (hb hby d_prog_59_method_3_code_8) (flt (by decide : ¬ ((4 : Int32) < (4 : Int32)))).2.1 (by decide) (by decide) ?_
    refine own_lloadN X0.here hx (hb hby d_prog_59_method_3_code_38) rfl ?_
    refine own_lloadN X0.here hx (hb hby d_prog_59_method_3_code_39) rfl ?_
    refine own_bipush X0.here hx (33 : Int32) (hb hby d_prog_59_method_3_code_40) rfl ?_
    refine own_lushr X0.here hx (hb hby d_prog_59_method_3_code_42) ?_
    refine own_lxor X0.here hx (hb hby d_prog_59_method_3_code_43) ?_
    show Steps p.tables e below (s₁.setTop (mkF m 44 #[.val (.ref a1), .val (.int 0), .val (.int 4), .val (.long (((((0 : Int64) + (x0 * (-7046029254386353131 : Int64))) + (x1 * (-7046029254386353129 : Int64))) + (x2 * (-7046029254386353127 : Int64))) + (x3 * (-7046029254386353125 : Int64)))), .second, .val (.int 4), .unset] [(.long (own_xs (((((0 : Int64) + (x0 * (-7046029254386353131 : Int64))) + (x1 * (-7046029254386353129 : Int64))) + (x2 * (-7046029254386353127 : Int64))) + (x3 * (-7046029254386353125 : Int64)))))])) _
    refine X0.ldc2Long hx hown (mvT hZ (hw _ (List.mem_of_getElem? (i := 9) rfl))) (g := (mkF m 44 #[.val (.ref a1), .val (.int 0), .val (.int 4), .val (.long (((((0 : Int64) + (x0 * (-7046029254386353131 : Int64))) + (x1 * (-7046029254386353129 : Int64))) + (x2 * (-7046029254386353127 : Int64))) + (x3 * (-7046029254386353125 : Int64)))), .second, .val (.int 4), .unset] [(.long (own_xs (((((0 : Int64) + (x0 * (-7046029254386353131 : Int64))) + (x1 * (-7046029254386353129 : Int64))) + (x2 * (-7046029254386353127 : Int64))) + (x3 * (-7046029254386353125 : Int64)))))])) rfl (hb hby d_prog_59_method_3_code_44) _ ?_
    show Steps p.tables e below (s₁.setTop (mkF m 47 #[.val (.ref a1), .val (.int 0), .val (.int 4), .val (.long (((((0 : Int64) + (x0 * (-7046029254386353131 : Int64))) + (x1 * (-7046029254386353129 : Int64))) + (x2 * (-7046029254386353127 : Int64))) + (x3 * (-7046029254386353125 : Int64)))), .second, .val (.int 4), .unset] [(.long (-49064778989728563)), (.long (own_xs (((((0 : Int64) + (x0 * (-7046029254386353131 : Int64))) + (x1 * (-7046029254386353129 : Int64))) + (x2 * (-7046029254386353127 : Int64))) + (x3 * (-7046029254386353125 : Int64)))))])) _
    refine own_lmul X0.here hx (hb hby d_prog_59_method_3_code_47) ?_
    refine own_lstore X0.here hx (hb hby d_prog_59_method_3_code_48) (l' := #[.val (.ref a1), .val (.int 0), .val (.int 4), .val (.long (((((0 : Int64) + (x0 * (-7046029254386353131 : Int64))) + (x1 * (-7046029254386353129 : Int64))) + (x2 * (-7046029254386353127 : Int64))) + (x3 * (-7046029254386353125 : Int64)))), .second, .val (.long ((own_xs (((((0 : Int64) + (x0 * (-7046029254386353131 : Int64))) + (x1 * (-7046029254386353129 : Int64))) + (x2 * (-7046029254386353127 : Int64))) + (x3 * (-7046029254386353125 : Int64)))) * (-49064778989728563 : Int64))), .second]) rfl ?_
    refine own_lload X0.here hx (hb hby d_prog_59_method_3_code_50) rfl ?_
    refine own_lload X0.here hx (hb hby d_prog_59_method_3_code_52) rfl ?_
    refine own_bipush X0.here hx (33 : Int32) (hb hby d_prog_59_method_3_code_54) rfl ?_
    refine own_lushr X0.here hx (hb hby d_prog_59_method_3_code_56) ?_
    refine own_lxor X0.here hx (hb hby d_prog_59_method_3_code_57) ?_
    show Steps p.tables e below (s₁.setTop (mkF m 58 #[.val (.ref a1), .val (.int 0), .val (.int 4), .val (.long (((((0 : Int64) + (x0 * (-7046029254386353131 : Int64))) + (x1 * (-7046029254386353129 : Int64))) + (x2 * (-7046029254386353127 : Int64))) + (x3 * (-7046029254386353125 : Int64)))), .second, .val (.long ((own_xs (((((0 : Int64) + (x0 * (-7046029254386353131 : Int64))) + (x1 * (-7046029254386353129 : Int64))) + (x2 * (-7046029254386353127 : Int64))) + (x3 * (-7046029254386353125 : Int64)))) * (-49064778989728563 : Int64))), .second] [(.long (own_xs ((own_xs (((((0 : Int64) + (x0 * (-7046029254386353131 : Int64))) + (x1 * (-7046029254386353129 : Int64))) + (x2 * (-7046029254386353127 : Int64))) + (x3 * (-7046029254386353125 : Int64)))) * (-49064778989728563 : Int64))))])) _
    refine X0.ldc2Long hx hown (mvT hZ (hw _ (List.mem_of_getElem? (i := 10) rfl))) (g := (mkF m 58 #[.val (.ref a1), .val (.int 0), .val (.int 4), .val (.long (((((0 : Int64) + (x0 * (-7046029254386353131 : Int64))) + (x1 * (-7046029254386353129 : Int64))) + (x2 * (-7046029254386353127 : Int64))) + (x3 * (-7046029254386353125 : Int64)))), .second, .val (.long ((own_xs (((((0 : Int64) + (x0 * (-7046029254386353131 : Int64))) + (x1 * (-7046029254386353129 : Int64))) + (x2 * (-7046029254386353127 : Int64))) + (x3 * (-7046029254386353125 : Int64)))) * (-49064778989728563 : Int64))), .second] [(.long (own_xs ((own_xs (((((0 : Int64) + (x0 * (-7046029254386353131 : Int64))) + (x1 * (-7046029254386353129 : Int64))) + (x2 * (-7046029254386353127 : Int64))) + (x3 * (-7046029254386353125 : Int64)))) * (-49064778989728563 : Int64))))])) rfl (hb hby d_prog_59_method_3_code_58) _ ?_
    show Steps p.tables e below (s₁.setTop (mkF m 61 #[.val (.ref a1), .val (.int 0), .val (.int 4), .val (.long (((((0 : Int64) + (x0 * (-7046029254386353131 : Int64))) + (x1 * (-7046029254386353129 : Int64))) + (x2 * (-7046029254386353127 : Int64))) + (x3 * (-7046029254386353125 : Int64)))), .second, .val (.long ((own_xs (((((0 : Int64) + (x0 * (-7046029254386353131 : Int64))) + (x1 * (-7046029254386353129 : Int64))) + (x2 * (-7046029254386353127 : Int64))) + (x3 * (-7046029254386353125 : Int64)))) * (-49064778989728563 : Int64))), .second] [(.long (-4265267296055464877)), (.long (own_xs ((own_xs (((((0 : Int64) + (x0 * (-7046029254386353131 : Int64))) + (x1 * (-7046029254386353129 : Int64))) + (x2 * (-7046029254386353127 : Int64))) + (x3 * (-7046029254386353125 : Int64)))) * (-49064778989728563 : Int64))))])) _
    refine own_lmul X0.here hx (hb hby d_prog_59_method_3_code_61) ?_
    refine own_lstore X0.here hx (hb hby d_prog_59_method_3_code_62) (l' := #[.val (.ref a1), .val (.int 0), .val (.int 4), .val (.long (((((0 : Int64) + (x0 * (-7046029254386353131 : Int64))) + (x1 * (-7046029254386353129 : Int64))) + (x2 * (-7046029254386353127 : Int64))) + (x3 * (-7046029254386353125 : Int64)))), .second, .val (.long ((own_xs ((own_xs (((((0 : Int64) + (x0 * (-7046029254386353131 : Int64))) + (x1 * (-7046029254386353129 : Int64))) + (x2 * (-7046029254386353127 : Int64))) + (x3 * (-7046029254386353125 : Int64)))) * (-49064778989728563 : Int64))) * (-4265267296055464877 : Int64))), .second]) rfl ?_
    refine own_lload X0.here hx (hb hby d_prog_59_method_3_code_64) rfl ?_
    refine own_lload X0.here hx (hb hby d_prog_59_method_3_code_66) rfl ?_
    refine own_bipush X0.here hx (33 : Int32) (hb hby d_prog_59_method_3_code_68) rfl ?_
    refine own_lushr X0.here hx (hb hby d_prog_59_method_3_code_70) ?_
    refine own_lxor X0.here hx (hb hby d_prog_59_method_3_code_71) ?_
    show Steps p.tables e below (s₁.setTop (mkF m 72 #[.val (.ref a1), .val (.int 0), .val (.int 4), .val (.long (((((0 : Int64) + (x0 * (-7046029254386353131 : Int64))) + (x1 * (-7046029254386353129 : Int64))) + (x2 * (-7046029254386353127 : Int64))) + (x3 * (-7046029254386353125 : Int64)))), .second, .val (.long ((own_xs ((own_xs (((((0 : Int64) + (x0 * (-7046029254386353131 : Int64))) + (x1 * (-7046029254386353129 : Int64))) + (x2 * (-7046029254386353127 : Int64))) + (x3 * (-7046029254386353125 : Int64)))) * (-49064778989728563 : Int64))) * (-4265267296055464877 : Int64))), .second] [(.long (own_xs ((own_xs ((own_xs (((((0 : Int64) + (x0 * (-7046029254386353131 : Int64))) + (x1 * (-7046029254386353129 : Int64))) + (x2 * (-7046029254386353127 : Int64))) + (x3 * (-7046029254386353125 : Int64)))) * (-49064778989728563 : Int64))) * (-4265267296055464877 : Int64))))])) _
    exact X0.lreturnOut hx Bd.returns (hb hby d_prog_59_method_3_code_72) hr
  · show QF_0_4 Z a1 k1 x0 x1 x2 x3 x4 x5 h0 n0 _ s₁.heap _
    rw [e0]
    exact ⟨rfl, N0, rfl⟩
theorem ef_rmF_1_0 (m : MethodId) (x0 : Addr) (x1 : Int32) (x2 : Int32) : entryFrame m #[(.ref x0), (.int x1), (.int x2)] 7 = mkF m 0 #[.val (.ref x0), .val (.int x1), .val (.int x2), .unset, .unset, .unset, .unset] [] := by first | (simp [entryFrame, mkF, argsToLocals, Value.category]; done) | rfl
def QF_1_0 (Z : State) (a1 : Addr) (k1 : ClassId) (x0 : Int64) (x1 : Int64) (x2 : Int64) (x3 : Int64) (x4 : Int64) (x5 : Int64) (h0 : Heap) (n0 : Nat) (v : Option Value) (h : Heap) (L : List Loc) : Prop := v = some (.long (own_mix (0 : Int64))) ∧ Fr n0 L ∧ h = h0
set_option maxRecDepth 65536 in
set_option maxHeartbeats 40000000 in
theorem rmF_1_0 (l : Launch) (Z : State) (a0 : Array Value) (hw : ∀ d ∈ tables_1, d.before a0 Z = true) (ws : List Jvm.Cond) (a1 : Addr) (k1 : ClassId) (x0 : Int64) (x1 : Int64) (x2 : Int64) (x3 : Int64) (x4 : Int64) (x5 : Int64) (h0 : Heap) (n0 : Nat) (Z0 : n0 ≤ h0.size) (V1 : Arv Z h0 a1 k1 .long (6 : Int32) [(.long x0), (.long x1), (.long x2), (.long x3), (.long x4), (.long x5)] (.long (0 : Int64))) :
    MetFree l (⟨"com/example/naqsh/naqsh/mining/TransactionSets", "fingerprint", "([JII)J"⟩ : MethodName) (head1 (Jvm.Cond.code (⟨"com/example/naqsh/naqsh/mining/TransactionSets", "fingerprint", "([JII)J"⟩ : MethodName) prog_59_method_3_code 7 (some .long) :: ws) ({ frames := 0, cells := 0, slots := 0, locals := 0 } : Room)) (fun a U => a = #[(.ref a1), (.int 1), (.int 0)] ∧ Z.Warmed39 U.vm ∧ U.heap = h0) (fun _ _ _ _ _ => True) (fun _ U o U' => ∃ v L, o = .returned v ∧ QF_1_0 Z a1 k1 x0 x1 x2 x3 x4 x5 h0 n0 v U'.heap L ∧ FrameEnd U o U' L ({ frames := 0, cells := 0, slots := 0, locals := 0 } : Room).cells ({ frames := 0, cells := 0, slots := 0, locals := 0 } : Room).slots) := by
  refine MetFree.of_bodySF (plainFor_of_name pn_com_example_naqsh_naqsh_mining_TransactionSets) hisR ?_
  intro p e s m args below meth c s₁ Bd hml0 hP hK
  obtain ⟨rfl, hZ, hh⟩ := hP
  have hx := Bd.exec
  have hby := Bd.bytes
  have hml : c.maxLocals = 7 := hml0
  have hown : s.vm.findClass "com/example/naqsh/naqsh/mining/TransactionSets" = some m.cls := findClass_of_methodNamed Bd.named
  have hnm := (name_of_methodNamed Bd.named Bd.method).1
  have X0 : Stand p l e ({ frames := 0, cells := 0, slots := 0, locals := 0 } : Room) s m #[(.ref a1), (.int 1), (.int 0)] below meth c s₁ [] 0 0 := Stand.of_body Bd
  have e0 : s₁.heap = h0 := by rw [← hh, Bd.state]; rfl
  have N0 := Fr.nil n0
  have pre0 : ∀ tG, Steps p.tables e below (s₁.setTop (mkF m 0 #[.val (.ref a1), .val (.int 1), .val (.int 0), .unset, .unset, .unset, .unset] [])) tG → Steps p.tables e below (s₁.setTop (entryFrame m #[(.ref a1), (.int 1), (.int 0)] 7)) tG := fun tG kG => castTop (ef_rmF_1_0 m a1 (1 : Int32) (0 : Int32)) kG
  obtain ⟨fs, hr, hrun, hended, hW, hsame⟩ := X0.leave (v := some (.long (own_xs ((own_xs ((own_xs (0 : Int64)) * (-49064778989728563 : Int64))) * (-4265267296055464877 : Int64))))) (fun h => by rw [Bd.returns] at h; cases h)
  refine ⟨_, _, pre0 _ ?_, hrun, hended, _, _, rfl, ?_, ⟨_, rfl⟩, hW, hsame.mono (by decide) (by decide)⟩
  · refine own_lconst0 X0.here hx (hb hby d_prog_59_method_3_code_0) ?_
    refine own_lstoreN X0.here hx (hb hby d_prog_59_method_3_code_1) (l' := #[.val (.ref a1), .val (.int 1), .val (.int 0), .val (.long 0), .second, .unset, .unset]) rfl ?_
    refine own_iconst X0.here hx (0 : Int32) (hb hby d_prog_59_method_3_code_2) rfl ?_
    refine own_istore X0.here hx (hb hby d_prog_59_method_3_code_3) (l' := #[.val (.ref a1), .val (.int 1), .val (.int 0), .val (.long 0), .second, .val (.int 0), .unset]) rfl ?_
    refine own_iload X0.here hx (hb hby d_prog_59_method_3_code_5) rfl ?_
    refine own_iloadN X0.here hx (hb hby d_prog_59_method_3_code_7) rfl ?_
    refine own_icmpYes X0.here hx 8 38 rfl (hb hby d_prog_59_method_3_code_8) (flt (by decide : ¬ ((0 : Int32) < (0 : Int32)))).2.1 (by decide) (by decide) ?_
    refine own_lloadN X0.here hx (hb hby d_prog_59_method_3_code_38) rfl ?_
    refine own_lloadN X0.here hx (hb hby d_prog_59_method_3_code_39) rfl ?_
    refine own_bipush X0.here hx (33 : Int32) (hb hby d_prog_59_method_3_code_40) rfl ?_
    refine own_lushr X0.here hx (hb hby d_prog_59_method_3_code_42) ?_
    refine own_lxor X0.here hx (hb hby d_prog_59_method_3_code_43) ?_
    show Steps p.tables e below (s₁.setTop (mkF m 44 #[.val (.ref a1), .val (.int 1), .val (.int 0), .val (.long 0), .second, .val (.int 0), .unset] [(.long (own_xs (0 : Int64)))])) _
    refine X0.ldc2Long hx hown (mvT hZ (hw _ (List.mem_of_getElem? (i := 9) rfl))) (g := (mkF m 44 #[.val (.ref a1), .val (.int 1), .val (.int 0), .val (.long 0), .second, .val (.int 0), .unset] [(.long (own_xs (0 : Int64)))])) rfl (hb hby d_prog_59_method_3_code_44) _ ?_
    show Steps p.tables e below (s₁.setTop (mkF m 47 #[.val (.ref a1), .val (.int 1), .val (.int 0), .val (.long 0), .second, .val (.int 0), .unset] [(.long (-49064778989728563)), (.long (own_xs (0 : Int64)))])) _
    refine own_lmul X0.here hx (hb hby d_prog_59_method_3_code_47) ?_
    refine own_lstore X0.here hx (hb hby d_prog_59_method_3_code_48) (l' := #[.val (.ref a1), .val (.int 1), .val (.int 0), .val (.long 0), .second, .val (.long ((own_xs (0 : Int64)) * (-49064778989728563 : Int64))), .second]) rfl ?_
    refine own_lload X0.here hx (hb hby d_prog_59_method_3_code_50) rfl ?_
    refine own_lload X0.here hx (hb hby d_prog_59_method_3_code_52) rfl ?_
    refine own_bipush X0.here hx (33 : Int32) (hb hby d_prog_59_method_3_code_54) rfl ?_
    refine own_lushr X0.here hx (hb hby d_prog_59_method_3_code_56) ?_
    refine own_lxor X0.here hx (hb hby d_prog_59_method_3_code_57) ?_
    show Steps p.tables e below (s₁.setTop (mkF m 58 #[.val (.ref a1), .val (.int 1), .val (.int 0), .val (.long 0), .second, .val (.long ((own_xs (0 : Int64)) * (-49064778989728563 : Int64))), .second] [(.long (own_xs ((own_xs (0 : Int64)) * (-49064778989728563 : Int64))))])) _
    refine X0.ldc2Long hx hown (mvT hZ (hw _ (List.mem_of_getElem? (i := 10) rfl))) (g := (mkF m 58 #[.val (.ref a1), .val (.int 1), .val (.int 0), .val (.long 0), .second, .val (.long ((own_xs (0 : Int64)) * (-49064778989728563 : Int64))), .second] [(.long (own_xs ((own_xs (0 : Int64)) * (-49064778989728563 : Int64))))])) rfl (hb hby d_prog_59_method_3_code_58) _ ?_
    show Steps p.tables e below (s₁.setTop (mkF m 61 #[.val (.ref a1), .val (.int 1), .val (.int 0), .val (.long 0), .second, .val (.long ((own_xs (0 : Int64)) * (-49064778989728563 : Int64))), .second] [(.long (-4265267296055464877)), (.long (own_xs ((own_xs (0 : Int64)) * (-49064778989728563 : Int64))))])) _
    refine own_lmul X0.here hx (hb hby d_prog_59_method_3_code_61) ?_
    refine own_lstore X0.here hx (hb hby d_prog_59_method_3_code_62) (l' := #[.val (.ref a1), .val (.int 1), .val (.int 0), .val (.long 0), .second, .val (.long ((own_xs ((own_xs (0 : Int64)) * (-49064778989728563 : Int64))) * (-4265267296055464877 : Int64))), .second]) rfl ?_
    refine own_lload X0.here hx (hb hby d_prog_59_method_3_code_64) rfl ?_
    refine own_lload X0.here hx (hb hby d_prog_59_method_3_code_66) rfl ?_
    refine own_bipush X0.here hx (33 : Int32) (hb hby d_prog_59_method_3_code_68) rfl ?_
    refine own_lushr X0.here hx (hb hby d_prog_59_method_3_code_70) ?_
    refine own_lxor X0.here hx (hb hby d_prog_59_method_3_code_71) ?_
    show Steps p.tables e below (s₁.setTop (mkF m 72 #[.val (.ref a1), .val (.int 1), .val (.int 0), .val (.long 0), .second, .val (.long ((own_xs ((own_xs (0 : Int64)) * (-49064778989728563 : Int64))) * (-4265267296055464877 : Int64))), .second] [(.long (own_xs ((own_xs ((own_xs (0 : Int64)) * (-49064778989728563 : Int64))) * (-4265267296055464877 : Int64))))])) _
    exact X0.lreturnOut hx Bd.returns (hb hby d_prog_59_method_3_code_72) hr
  · show QF_1_0 Z a1 k1 x0 x1 x2 x3 x4 x5 h0 n0 _ s₁.heap _
    rw [e0]
    exact ⟨rfl, N0, rfl⟩
theorem ef_rmF_1_1 (m : MethodId) (x0 : Addr) (x1 : Int32) (x2 : Int32) : entryFrame m #[(.ref x0), (.int x1), (.int x2)] 7 = mkF m 0 #[.val (.ref x0), .val (.int x1), .val (.int x2), .unset, .unset, .unset, .unset] [] := by first | (simp [entryFrame, mkF, argsToLocals, Value.category]; done) | rfl
def QF_1_1 (Z : State) (a1 : Addr) (k1 : ClassId) (x0 : Int64) (x1 : Int64) (x2 : Int64) (x3 : Int64) (x4 : Int64) (x5 : Int64) (h0 : Heap) (n0 : Nat) (v : Option Value) (h : Heap) (L : List Loc) : Prop := v = some (.long (own_mix ((0 : Int64) + (x1 * (-7046029254386353131 : Int64))))) ∧ Fr n0 L ∧ h = h0
set_option maxRecDepth 65536 in
set_option maxHeartbeats 40000000 in
theorem rmF_1_1 (l : Launch) (Z : State) (a0 : Array Value) (hw : ∀ d ∈ tables_1, d.before a0 Z = true) (ws : List Jvm.Cond) (a1 : Addr) (k1 : ClassId) (x0 : Int64) (x1 : Int64) (x2 : Int64) (x3 : Int64) (x4 : Int64) (x5 : Int64) (h0 : Heap) (n0 : Nat) (Z0 : n0 ≤ h0.size) (V1 : Arv Z h0 a1 k1 .long (6 : Int32) [(.long x0), (.long x1), (.long x2), (.long x3), (.long x4), (.long x5)] (.long (0 : Int64))) :
    MetFree l (⟨"com/example/naqsh/naqsh/mining/TransactionSets", "fingerprint", "([JII)J"⟩ : MethodName) (head1 (Jvm.Cond.code (⟨"com/example/naqsh/naqsh/mining/TransactionSets", "fingerprint", "([JII)J"⟩ : MethodName) prog_59_method_3_code 7 (some .long) :: ws) ({ frames := 0, cells := 0, slots := 0, locals := 0 } : Room)) (fun a U => a = #[(.ref a1), (.int 1), (.int 1)] ∧ Z.Warmed39 U.vm ∧ U.heap = h0) (fun _ _ _ _ _ => True) (fun _ U o U' => ∃ v L, o = .returned v ∧ QF_1_1 Z a1 k1 x0 x1 x2 x3 x4 x5 h0 n0 v U'.heap L ∧ FrameEnd U o U' L ({ frames := 0, cells := 0, slots := 0, locals := 0 } : Room).cells ({ frames := 0, cells := 0, slots := 0, locals := 0 } : Room).slots) := by
  refine MetFree.of_bodySF (plainFor_of_name pn_com_example_naqsh_naqsh_mining_TransactionSets) hisR ?_
  intro p e s m args below meth c s₁ Bd hml0 hP hK
  obtain ⟨rfl, hZ, hh⟩ := hP
  have hx := Bd.exec
  have hby := Bd.bytes
  have hml : c.maxLocals = 7 := hml0
  have hown : s.vm.findClass "com/example/naqsh/naqsh/mining/TransactionSets" = some m.cls := findClass_of_methodNamed Bd.named
  have hnm := (name_of_methodNamed Bd.named Bd.method).1
  have X0 : Stand p l e ({ frames := 0, cells := 0, slots := 0, locals := 0 } : Room) s m #[(.ref a1), (.int 1), (.int 1)] below meth c s₁ [] 0 0 := Stand.of_body Bd
  have e0 : s₁.heap = h0 := by rw [← hh, Bd.state]; rfl
  have N0 := Fr.nil n0
  have pre0 : ∀ tG, Steps p.tables e below (s₁.setTop (mkF m 0 #[.val (.ref a1), .val (.int 1), .val (.int 1), .unset, .unset, .unset, .unset] [])) tG → Steps p.tables e below (s₁.setTop (entryFrame m #[(.ref a1), (.int 1), (.int 1)] 7)) tG := fun tG kG => castTop (ef_rmF_1_1 m a1 (1 : Int32) (1 : Int32)) kG
  obtain ⟨cl13, Ar13, q13, S13, M13, H13, J13⟩ := id V1
  have hin13 : ¬ ((1 : Int32) < 0 ∨ cl13.slots.size ≤ ((1 : Int32)).toNatClampNeg) := inb_of S13 ⟨by decide, by decide⟩
  have hat13 : cl13.slots[((1 : Int32)).toNatClampNeg]? = some (.long x1) := Has.at H13 hin13 rfl
  obtain ⟨fs, hr, hrun, hended, hW, hsame⟩ := X0.leave (v := some (.long (own_xs ((own_xs ((own_xs ((0 : Int64) + (x1 * (-7046029254386353131 : Int64)))) * (-49064778989728563 : Int64))) * (-4265267296055464877 : Int64))))) (fun h => by rw [Bd.returns] at h; cases h)
  refine ⟨_, _, pre0 _ ?_, hrun, hended, _, _, rfl, ?_, ⟨_, rfl⟩, hW, hsame.mono (by decide) (by decide)⟩
  · refine own_lconst0 X0.here hx (hb hby d_prog_59_method_3_code_0) ?_
    refine own_lstoreN X0.here hx (hb hby d_prog_59_method_3_code_1) (l' := #[.val (.ref a1), .val (.int 1), .val (.int 1), .val (.long 0), .second, .unset, .unset]) rfl ?_
    refine own_iconst X0.here hx (0 : Int32) (hb hby d_prog_59_method_3_code_2) rfl ?_
    refine own_istore X0.here hx (hb hby d_prog_59_method_3_code_3) (l' := #[.val (.ref a1), .val (.int 1), .val (.int 1), .val (.long 0), .second, .val (.int 0), .unset]) rfl ?_
    refine own_iload X0.here hx (hb hby d_prog_59_method_3_code_5) rfl ?_
    refine own_iloadN X0.here hx (hb hby d_prog_59_method_3_code_7) rfl ?_
    refine own_icmpNo X0.here hx (hb hby d_prog_59_method_3_code_8) (tlt (by decide : (0 : Int32) < (1 : Int32))).2.1 ?_
    refine own_lloadN X0.here hx (hb hby d_prog_59_method_3_code_11) rfl ?_
    refine own_aloadN X0.here hx (hb hby d_prog_59_method_3_code_12) rfl rfl ?_
    refine own_iloadN X0.here hx (hb hby d_prog_59_method_3_code_13) rfl ?_
    refine own_iload X0.here hx (hb hby d_prog_59_method_3_code_14) rfl ?_
    refine own_iadd X0.here hx (hb hby d_prog_59_method_3_code_16) ?_
    show Steps p.tables e below (s₁.setTop (mkF m 17 #[.val (.ref a1), .val (.int 1), .val (.int 1), .val (.long 0), .second, .val (.int 0), .unset] [(.int 1), (.ref a1), (.long 0)])) _
    refine X0.laload hx (j := (1 : Int32)) (v := (.long x1)) (by rw [e0]; exact Ar13.1) (State.isArrayOf_alike hZ.alike Ar13.2.1) Ar13.2.2 hin13 hat13 (g := (mkF m 17 #[.val (.ref a1), .val (.int 1), .val (.int 1), .val (.long 0), .second, .val (.int 0), .unset] [(.int 1), (.ref a1), (.long 0)])) rfl rfl (hb hby d_prog_59_method_3_code_17) _ ?_
    show Steps p.tables e below (s₁.setTop (mkF m 18 #[.val (.ref a1), .val (.int 1), .val (.int 1), .val (.long 0), .second, .val (.int 0), .unset] [(.long x1), (.long 0)])) _
    refine X0.ldc2Long hx hown (mvT hZ (hw _ (List.mem_of_getElem? (i := 7) rfl))) (g := (mkF m 18 #[.val (.ref a1), .val (.int 1), .val (.int 1), .val (.long 0), .second, .val (.int 0), .unset] [(.long x1), (.long 0)])) rfl (hb hby d_prog_59_method_3_code_18) _ ?_
    show Steps p.tables e below (s₁.setTop (mkF m 21 #[.val (.ref a1), .val (.int 1), .val (.int 1), .val (.long 0), .second, .val (.int 0), .unset] [(.long (-7046029254386353131)), (.long x1), (.long 0)])) _
    refine X0.ldc2Long hx hown (mvT hZ (hw _ (List.mem_of_getElem? (i := 8) rfl))) (g := (mkF m 21 #[.val (.ref a1), .val (.int 1), .val (.int 1), .val (.long 0), .second, .val (.int 0), .unset] [(.long (-7046029254386353131)), (.long x1), (.long 0)])) rfl (hb hby d_prog_59_method_3_code_21) _ ?_
    show Steps p.tables e below (s₁.setTop (mkF m 24 #[.val (.ref a1), .val (.int 1), .val (.int 1), .val (.long 0), .second, .val (.int 0), .unset] [(.long 2), (.long (-7046029254386353131)), (.long x1), (.long 0)])) _
    refine own_iload X0.here hx (hb hby d_prog_59_method_3_code_24) rfl ?_
    refine own_i2l X0.here hx (hb hby d_prog_59_method_3_code_26) ?_
    show Steps p.tables e below (s₁.setTop (mkF m 27 #[.val (.ref a1), .val (.int 1), .val (.int 1), .val (.long 0), .second, .val (.int 0), .unset] [(.long 0), (.long 2), (.long (-7046029254386353131)), (.long x1), (.long 0)])) _
    refine own_lmul X0.here hx (hb hby d_prog_59_method_3_code_27) ?_
    show Steps p.tables e below (s₁.setTop (mkF m 28 #[.val (.ref a1), .val (.int 1), .val (.int 1), .val (.long 0), .second, .val (.int 0), .unset] [(.long 0), (.long (-7046029254386353131)), (.long x1), (.long 0)])) _
    refine own_ladd X0.here hx (hb hby d_prog_59_method_3_code_28) ?_
    show Steps p.tables e below (s₁.setTop (mkF m 29 #[.val (.ref a1), .val (.int 1), .val (.int 1), .val (.long 0), .second, .val (.int 0), .unset] [(.long (-7046029254386353131)), (.long x1), (.long 0)])) _
    refine own_lmul X0.here hx (hb hby d_prog_59_method_3_code_29) ?_
    refine own_ladd X0.here hx (hb hby d_prog_59_method_3_code_30) ?_
    refine own_lstoreN X0.here hx (hb hby d_prog_59_method_3_code_31) (l' := #[.val (.ref a1), .val (.int 1), .val (.int 1), .val (.long ((0 : Int64) + (x1 * (-7046029254386353131 : Int64)))), .second, .val (.int 0), .unset]) rfl ?_
    refine own_iinc X0.here hx (1 : Int32) (hb hby d_prog_59_method_3_code_32) rfl rfl (l' := #[.val (.ref a1), .val (.int 1), .val (.int 1), .val (.long ((0 : Int64) + (x1 * (-7046029254386353131 : Int64)))), .second, .val (.int 1), .unset]) rfl ?_
    refine own_goto X0.here hx 35 5 rfl (hb hby d_prog_59_method_3_code_35) (by decide) (by decide) ?_
    refine own_iload X0.here hx (hb hby d_prog_59_method_3_code_5) rfl ?_
    refine own_iloadN X0.here hx (hb hby d_prog_59_method_3_code_7) rfl ?_
    refine own_icmpYes X0.here hx 8 38 rfl (hb hby d_prog_59_method_3_code_8) (flt (by decide : ¬ ((1 : Int32) < (1 : Int32)))).2.1 (by decide) (by decide) ?_
    refine own_lloadN X0.here hx (hb hby d_prog_59_method_3_code_38) rfl ?_
    refine own_lloadN X0.here hx (hb hby d_prog_59_method_3_code_39) rfl ?_
    refine own_bipush X0.here hx (33 : Int32) (hb hby d_prog_59_method_3_code_40) rfl ?_
    refine own_lushr X0.here hx (hb hby d_prog_59_method_3_code_42) ?_
    refine own_lxor X0.here hx (hb hby d_prog_59_method_3_code_43) ?_
    show Steps p.tables e below (s₁.setTop (mkF m 44 #[.val (.ref a1), .val (.int 1), .val (.int 1), .val (.long ((0 : Int64) + (x1 * (-7046029254386353131 : Int64)))), .second, .val (.int 1), .unset] [(.long (own_xs ((0 : Int64) + (x1 * (-7046029254386353131 : Int64)))))])) _
    refine X0.ldc2Long hx hown (mvT hZ (hw _ (List.mem_of_getElem? (i := 9) rfl))) (g := (mkF m 44 #[.val (.ref a1), .val (.int 1), .val (.int 1), .val (.long ((0 : Int64) + (x1 * (-7046029254386353131 : Int64)))), .second, .val (.int 1), .unset] [(.long (own_xs ((0 : Int64) + (x1 * (-7046029254386353131 : Int64)))))])) rfl (hb hby d_prog_59_method_3_code_44) _ ?_
    show Steps p.tables e below (s₁.setTop (mkF m 47 #[.val (.ref a1), .val (.int 1), .val (.int 1), .val (.long ((0 : Int64) + (x1 * (-7046029254386353131 : Int64)))), .second, .val (.int 1), .unset] [(.long (-49064778989728563)), (.long (own_xs ((0 : Int64) + (x1 * (-7046029254386353131 : Int64)))))])) _
    refine own_lmul X0.here hx (hb hby d_prog_59_method_3_code_47) ?_
    refine own_lstore X0.here hx (hb hby d_prog_59_method_3_code_48) (l' := #[.val (.ref a1), .val (.int 1), .val (.int 1), .val (.long ((0 : Int64) + (x1 * (-7046029254386353131 : Int64)))), .second, .val (.long ((own_xs ((0 : Int64) + (x1 * (-7046029254386353131 : Int64)))) * (-49064778989728563 : Int64))), .second]) rfl ?_
    refine own_lload X0.here hx (hb hby d_prog_59_method_3_code_50) rfl ?_
    refine own_lload X0.here hx (hb hby d_prog_59_method_3_code_52) rfl ?_
    refine own_bipush X0.here hx (33 : Int32) (hb hby d_prog_59_method_3_code_54) rfl ?_
    refine own_lushr X0.here hx (hb hby d_prog_59_method_3_code_56) ?_
    refine own_lxor X0.here hx (hb hby d_prog_59_method_3_code_57) ?_
    show Steps p.tables e below (s₁.setTop (mkF m 58 #[.val (.ref a1), .val (.int 1), .val (.int 1), .val (.long ((0 : Int64) + (x1 * (-7046029254386353131 : Int64)))), .second, .val (.long ((own_xs ((0 : Int64) + (x1 * (-7046029254386353131 : Int64)))) * (-49064778989728563 : Int64))), .second] [(.long (own_xs ((own_xs ((0 : Int64) + (x1 * (-7046029254386353131 : Int64)))) * (-49064778989728563 : Int64))))])) _
    refine X0.ldc2Long hx hown (mvT hZ (hw _ (List.mem_of_getElem? (i := 10) rfl))) (g := (mkF m 58 #[.val (.ref a1), .val (.int 1), .val (.int 1), .val (.long ((0 : Int64) + (x1 * (-7046029254386353131 : Int64)))), .second, .val (.long ((own_xs ((0 : Int64) + (x1 * (-7046029254386353131 : Int64)))) * (-49064778989728563 : Int64))), .second] [(.long (own_xs ((own_xs ((0 : Int64) + (x1 * (-7046029254386353131 : Int64)))) * (-49064778989728563 : Int64))))])) rfl (hb hby d_prog_59_method_3_code_58) _ ?_
    show Steps p.tables e below (s₁.setTop (mkF m 61 #[.val (.ref a1), .val (.int 1), .val (.int 1), .val (.long ((0 : Int64) + (x1 * (-7046029254386353131 : Int64)))), .second, .val (.long ((own_xs ((0 : Int64) + (x1 * (-7046029254386353131 : Int64)))) * (-49064778989728563 : Int64))), .second] [(.long (-4265267296055464877)), (.long (own_xs ((own_xs ((0 : Int64) + (x1 * (-7046029254386353131 : Int64)))) * (-49064778989728563 : Int64))))])) _
    refine own_lmul X0.here hx (hb hby d_prog_59_method_3_code_61) ?_
    refine own_lstore X0.here hx (hb hby d_prog_59_method_3_code_62) (l' := #[.val (.ref a1), .val (.int 1), .val (.int 1), .val (.long ((0 : Int64) + (x1 * (-7046029254386353131 : Int64)))), .second, .val (.long ((own_xs ((own_xs ((0 : Int64) + (x1 * (-7046029254386353131 : Int64)))) * (-49064778989728563 : Int64))) * (-4265267296055464877 : Int64))), .second]) rfl ?_
    refine own_lload X0.here hx (hb hby d_prog_59_method_3_code_64) rfl ?_
    refine own_lload X0.here hx (hb hby d_prog_59_method_3_code_66) rfl ?_
    refine own_bipush X0.here hx (33 : Int32) (hb hby d_prog_59_method_3_code_68) rfl ?_
    refine own_lushr X0.here hx (hb hby d_prog_59_method_3_code_70) ?_
    refine own_lxor X0.here hx (hb hby d_prog_59_method_3_code_71) ?_
    show Steps p.tables e below (s₁.setTop (mkF m 72 #[.val (.ref a1), .val (.int 1), .val (.int 1), .val (.long ((0 : Int64) + (x1 * (-7046029254386353131 : Int64)))), .second, .val (.long ((own_xs ((own_xs ((0 : Int64) + (x1 * (-7046029254386353131 : Int64)))) * (-49064778989728563 : Int64))) * (-4265267296055464877 : Int64))), .second] [(.long (own_xs ((own_xs ((own_xs ((0 : Int64) + (x1 * (-7046029254386353131 : Int64)))) * (-49064778989728563 : Int64))) * (-4265267296055464877 : Int64))))])) _
    exact X0.lreturnOut hx Bd.returns (hb hby d_prog_59_method_3_code_72) hr
  · show QF_1_1 Z a1 k1 x0 x1 x2 x3 x4 x5 h0 n0 _ s₁.heap _
    rw [e0]
    exact ⟨rfl, N0, rfl⟩
theorem ef_rmF_1_2 (m : MethodId) (x0 : Addr) (x1 : Int32) (x2 : Int32) : entryFrame m #[(.ref x0), (.int x1), (.int x2)] 7 = mkF m 0 #[.val (.ref x0), .val (.int x1), .val (.int x2), .unset, .unset, .unset, .unset] [] := by first | (simp [entryFrame, mkF, argsToLocals, Value.category]; done) | rfl
def QF_1_2 (Z : State) (a1 : Addr) (k1 : ClassId) (x0 : Int64) (x1 : Int64) (x2 : Int64) (x3 : Int64) (x4 : Int64) (x5 : Int64) (h0 : Heap) (n0 : Nat) (v : Option Value) (h : Heap) (L : List Loc) : Prop := v = some (.long (own_mix (((0 : Int64) + (x1 * (-7046029254386353131 : Int64))) + (x2 * (-7046029254386353129 : Int64))))) ∧ Fr n0 L ∧ h = h0
set_option maxRecDepth 65536 in
set_option maxHeartbeats 40000000 in
theorem rmF_1_2 (l : Launch) (Z : State) (a0 : Array Value) (hw : ∀ d ∈ tables_1, d.before a0 Z = true) (ws : List Jvm.Cond) (a1 : Addr) (k1 : ClassId) (x0 : Int64) (x1 : Int64) (x2 : Int64) (x3 : Int64) (x4 : Int64) (x5 : Int64) (h0 : Heap) (n0 : Nat) (Z0 : n0 ≤ h0.size) (V1 : Arv Z h0 a1 k1 .long (6 : Int32) [(.long x0), (.long x1), (.long x2), (.long x3), (.long x4), (.long x5)] (.long (0 : Int64))) :
    MetFree l (⟨"com/example/naqsh/naqsh/mining/TransactionSets", "fingerprint", "([JII)J"⟩ : MethodName) (head1 (Jvm.Cond.code (⟨"com/example/naqsh/naqsh/mining/TransactionSets", "fingerprint", "([JII)J"⟩ : MethodName) prog_59_method_3_code 7 (some .long) :: ws) ({ frames := 0, cells := 0, slots := 0, locals := 0 } : Room)) (fun a U => a = #[(.ref a1), (.int 1), (.int 2)] ∧ Z.Warmed39 U.vm ∧ U.heap = h0) (fun _ _ _ _ _ => True) (fun _ U o U' => ∃ v L, o = .returned v ∧ QF_1_2 Z a1 k1 x0 x1 x2 x3 x4 x5 h0 n0 v U'.heap L ∧ FrameEnd U o U' L ({ frames := 0, cells := 0, slots := 0, locals := 0 } : Room).cells ({ frames := 0, cells := 0, slots := 0, locals := 0 } : Room).slots) := by
  refine MetFree.of_bodySF (plainFor_of_name pn_com_example_naqsh_naqsh_mining_TransactionSets) hisR ?_
  intro p e s m args below meth c s₁ Bd hml0 hP hK
  obtain ⟨rfl, hZ, hh⟩ := hP
  have hx := Bd.exec
  have hby := Bd.bytes
  have hml : c.maxLocals = 7 := hml0
  have hown : s.vm.findClass "com/example/naqsh/naqsh/mining/TransactionSets" = some m.cls := findClass_of_methodNamed Bd.named
  have hnm := (name_of_methodNamed Bd.named Bd.method).1
  have X0 : Stand p l e ({ frames := 0, cells := 0, slots := 0, locals := 0 } : Room) s m #[(.ref a1), (.int 1), (.int 2)] below meth c s₁ [] 0 0 := Stand.of_body Bd
  have e0 : s₁.heap = h0 := by rw [← hh, Bd.state]; rfl
  have N0 := Fr.nil n0
  have pre0 : ∀ tG, Steps p.tables e below (s₁.setTop (mkF m 0 #[.val (.ref a1), .val (.int 1), .val (.int 2), .unset, .unset, .unset, .unset] [])) tG → Steps p.tables e below (s₁.setTop (entryFrame m #[(.ref a1), (.int 1), (.int 2)] 7)) tG := fun tG kG => castTop (ef_rmF_1_2 m a1 (1 : Int32) (2 : Int32)) kG
  obtain ⟨cl14, Ar14, q14, S14, M14, H14, J14⟩ := id V1
  have hin14 : ¬ ((1 : Int32) < 0 ∨ cl14.slots.size ≤ ((1 : Int32)).toNatClampNeg) := inb_of S14 ⟨by decide, by decide⟩
  have hat14 : cl14.slots[((1 : Int32)).toNatClampNeg]? = some (.long x1) := Has.at H14 hin14 rfl
  obtain ⟨cl15, Ar15, q15, S15, M15, H15, J15⟩ := id V1
  have hin15 : ¬ ((2 : Int32) < 0 ∨ cl15.slots.size ≤ ((2 : Int32)).toNatClampNeg) := inb_of S15 ⟨by decide, by decide⟩
  have hat15 : cl15.slots[((2 : Int32)).toNatClampNeg]? = some (.long x2) := Has.at H15 hin15 rfl
  obtain ⟨fs, hr, hrun, hended, hW, hsame⟩ := X0.leave (v := some (.long (own_xs ((own_xs ((own_xs (((0 : Int64) + (x1 * (-7046029254386353131 : Int64))) + (x2 * (-7046029254386353129 : Int64)))) * (-49064778989728563 : Int64))) * (-4265267296055464877 : Int64))))) (fun h => by rw [Bd.returns] at h; cases h)
  refine ⟨_, _, pre0 _ ?_, hrun, hended, _, _, rfl, ?_, ⟨_, rfl⟩, hW, hsame.mono (by decide) (by decide)⟩
  · refine own_lconst0 X0.here hx (hb hby d_prog_59_method_3_code_0) ?_
    refine own_lstoreN X0.here hx (hb hby d_prog_59_method_3_code_1) (l' := #[.val (.ref a1), .val (.int 1), .val (.int 2), .val (.long 0), .second, .unset, .unset]) rfl ?_
    refine own_iconst X0.here hx (0 : Int32) (hb hby d_prog_59_method_3_code_2) rfl ?_
    refine own_istore X0.here hx (hb hby d_prog_59_method_3_code_3) (l' := #[.val (.ref a1), .val (.int 1), .val (.int 2), .val (.long 0), .second, .val (.int 0), .unset]) rfl ?_
    refine own_iload X0.here hx (hb hby d_prog_59_method_3_code_5) rfl ?_
    refine own_iloadN X0.here hx (hb hby d_prog_59_method_3_code_7) rfl ?_
    refine own_icmpNo X0.here hx (hb hby d_prog_59_method_3_code_8) (tlt (by decide : (0 : Int32) < (2 : Int32))).2.1 ?_
    refine own_lloadN X0.here hx (hb hby d_prog_59_method_3_code_11) rfl ?_
    refine own_aloadN X0.here hx (hb hby d_prog_59_method_3_code_12) rfl rfl ?_
    refine own_iloadN X0.here hx (hb hby d_prog_59_method_3_code_13) rfl ?_
    refine own_iload X0.here hx (hb hby d_prog_59_method_3_code_14) rfl ?_
    refine own_iadd X0.here hx (hb hby d_prog_59_method_3_code_16) ?_
    show Steps p.tables e below (s₁.setTop (mkF m 17 #[.val (.ref a1), .val (.int 1), .val (.int 2), .val (.long 0), .second, .val (.int 0), .unset] [(.int 1), (.ref a1), (.long 0)])) _
    refine X0.laload hx (j := (1 : Int32)) (v := (.long x1)) (by rw [e0]; exact Ar14.1) (State.isArrayOf_alike hZ.alike Ar14.2.1) Ar14.2.2 hin14 hat14 (g := (mkF m 17 #[.val (.ref a1), .val (.int 1), .val (.int 2), .val (.long 0), .second, .val (.int 0), .unset] [(.int 1), (.ref a1), (.long 0)])) rfl rfl (hb hby d_prog_59_method_3_code_17) _ ?_
    show Steps p.tables e below (s₁.setTop (mkF m 18 #[.val (.ref a1), .val (.int 1), .val (.int 2), .val (.long 0), .second, .val (.int 0), .unset] [(.long x1), (.long 0)])) _
    refine X0.ldc2Long hx hown (mvT hZ (hw _ (List.mem_of_getElem? (i := 7) rfl))) (g := (mkF m 18 #[.val (.ref a1), .val (.int 1), .val (.int 2), .val (.long 0), .second, .val (.int 0), .unset] [(.long x1), (.long 0)])) rfl (hb hby d_prog_59_method_3_code_18) _ ?_
    show Steps p.tables e below (s₁.setTop (mkF m 21 #[.val (.ref a1), .val (.int 1), .val (.int 2), .val (.long 0), .second, .val (.int 0), .unset] [(.long (-7046029254386353131)), (.long x1), (.long 0)])) _
    refine X0.ldc2Long hx hown (mvT hZ (hw _ (List.mem_of_getElem? (i := 8) rfl))) (g := (mkF m 21 #[.val (.ref a1), .val (.int 1), .val (.int 2), .val (.long 0), .second, .val (.int 0), .unset] [(.long (-7046029254386353131)), (.long x1), (.long 0)])) rfl (hb hby d_prog_59_method_3_code_21) _ ?_
    show Steps p.tables e below (s₁.setTop (mkF m 24 #[.val (.ref a1), .val (.int 1), .val (.int 2), .val (.long 0), .second, .val (.int 0), .unset] [(.long 2), (.long (-7046029254386353131)), (.long x1), (.long 0)])) _
    refine own_iload X0.here hx (hb hby d_prog_59_method_3_code_24) rfl ?_
    refine own_i2l X0.here hx (hb hby d_prog_59_method_3_code_26) ?_
    show Steps p.tables e below (s₁.setTop (mkF m 27 #[.val (.ref a1), .val (.int 1), .val (.int 2), .val (.long 0), .second, .val (.int 0), .unset] [(.long 0), (.long 2), (.long (-7046029254386353131)), (.long x1), (.long 0)])) _
    refine own_lmul X0.here hx (hb hby d_prog_59_method_3_code_27) ?_
    show Steps p.tables e below (s₁.setTop (mkF m 28 #[.val (.ref a1), .val (.int 1), .val (.int 2), .val (.long 0), .second, .val (.int 0), .unset] [(.long 0), (.long (-7046029254386353131)), (.long x1), (.long 0)])) _
    refine own_ladd X0.here hx (hb hby d_prog_59_method_3_code_28) ?_
    show Steps p.tables e below (s₁.setTop (mkF m 29 #[.val (.ref a1), .val (.int 1), .val (.int 2), .val (.long 0), .second, .val (.int 0), .unset] [(.long (-7046029254386353131)), (.long x1), (.long 0)])) _
    refine own_lmul X0.here hx (hb hby d_prog_59_method_3_code_29) ?_
    refine own_ladd X0.here hx (hb hby d_prog_59_method_3_code_30) ?_
    refine own_lstoreN X0.here hx (hb hby d_prog_59_method_3_code_31) (l' := #[.val (.ref a1), .val (.int 1), .val (.int 2), .val (.long ((0 : Int64) + (x1 * (-7046029254386353131 : Int64)))), .second, .val (.int 0), .unset]) rfl ?_
    refine own_iinc X0.here hx (1 : Int32) (hb hby d_prog_59_method_3_code_32) rfl rfl (l' := #[.val (.ref a1), .val (.int 1), .val (.int 2), .val (.long ((0 : Int64) + (x1 * (-7046029254386353131 : Int64)))), .second, .val (.int 1), .unset]) rfl ?_
    refine own_goto X0.here hx 35 5 rfl (hb hby d_prog_59_method_3_code_35) (by decide) (by decide) ?_
    refine own_iload X0.here hx (hb hby d_prog_59_method_3_code_5) rfl ?_
    refine own_iloadN X0.here hx (hb hby d_prog_59_method_3_code_7) rfl ?_
    refine own_icmpNo X0.here hx (hb hby d_prog_59_method_3_code_8) (tlt (by decide : (1 : Int32) < (2 : Int32))).2.1 ?_
    refine own_lloadN X0.here hx (hb hby d_prog_59_method_3_code_11) rfl ?_
    refine own_aloadN X0.here hx (hb hby d_prog_59_method_3_code_12) rfl rfl ?_
    refine own_iloadN X0.here hx (hb hby d_prog_59_method_3_code_13) rfl ?_
    refine own_iload X0.here hx (hb hby d_prog_59_method_3_code_14) rfl ?_
    refine own_iadd X0.here hx (hb hby d_prog_59_method_3_code_16) ?_
    show Steps p.tables e below (s₁.setTop (mkF m 17 #[.val (.ref a1), .val (.int 1), .val (.int 2), .val (.long ((0 : Int64) + (x1 * (-7046029254386353131 : Int64)))), .second, .val (.int 1), .unset] [(.int 2), (.ref a1), (.long ((0 : Int64) + (x1 * (-7046029254386353131 : Int64))))])) _
    refine X0.laload hx (j := (2 : Int32)) (v := (.long x2)) (by rw [e0]; exact Ar15.1) (State.isArrayOf_alike hZ.alike Ar15.2.1) Ar15.2.2 hin15 hat15 (g := (mkF m 17 #[.val (.ref a1), .val (.int 1), .val (.int 2), .val (.long ((0 : Int64) + (x1 * (-7046029254386353131 : Int64)))), .second, .val (.int 1), .unset] [(.int 2), (.ref a1), (.long ((0 : Int64) + (x1 * (-7046029254386353131 : Int64))))])) rfl rfl (hb hby d_prog_59_method_3_code_17) _ ?_
    show Steps p.tables e below (s₁.setTop (mkF m 18 #[.val (.ref a1), .val (.int 1), .val (.int 2), .val (.long ((0 : Int64) + (x1 * (-7046029254386353131 : Int64)))), .second, .val (.int 1), .unset] [(.long x2), (.long ((0 : Int64) + (x1 * (-7046029254386353131 : Int64))))])) _
    refine X0.ldc2Long hx hown (mvT hZ (hw _ (List.mem_of_getElem? (i := 7) rfl))) (g := (mkF m 18 #[.val (.ref a1), .val (.int 1), .val (.int 2), .val (.long ((0 : Int64) + (x1 * (-7046029254386353131 : Int64)))), .second, .val (.int 1), .unset] [(.long x2), (.long ((0 : Int64) + (x1 * (-7046029254386353131 : Int64))))])) rfl (hb hby d_prog_59_method_3_code_18) _ ?_
    show Steps p.tables e below (s₁.setTop (mkF m 21 #[.val (.ref a1), .val (.int 1), .val (.int 2), .val (.long ((0 : Int64) + (x1 * (-7046029254386353131 : Int64)))), .second, .val (.int 1), .unset] [(.long (-7046029254386353131)), (.long x2), (.long ((0 : Int64) + (x1 * (-7046029254386353131 : Int64))))])) _
    refine X0.ldc2Long hx hown (mvT hZ (hw _ (List.mem_of_getElem? (i := 8) rfl))) (g := (mkF m 21 #[.val (.ref a1), .val (.int 1), .val (.int 2), .val (.long ((0 : Int64) + (x1 * (-7046029254386353131 : Int64)))), .second, .val (.int 1), .unset] [(.long (-7046029254386353131)), (.long x2), (.long ((0 : Int64) + (x1 * (-7046029254386353131 : Int64))))])) rfl (hb hby d_prog_59_method_3_code_21) _ ?_
    show Steps p.tables e below (s₁.setTop (mkF m 24 #[.val (.ref a1), .val (.int 1), .val (.int 2), .val (.long ((0 : Int64) + (x1 * (-7046029254386353131 : Int64)))), .second, .val (.int 1), .unset] [(.long 2), (.long (-7046029254386353131)), (.long x2), (.long ((0 : Int64) + (x1 * (-7046029254386353131 : Int64))))])) _
    refine own_iload X0.here hx (hb hby d_prog_59_method_3_code_24) rfl ?_
    refine own_i2l X0.here hx (hb hby d_prog_59_method_3_code_26) ?_
    show Steps p.tables e below (s₁.setTop (mkF m 27 #[.val (.ref a1), .val (.int 1), .val (.int 2), .val (.long ((0 : Int64) + (x1 * (-7046029254386353131 : Int64)))), .second, .val (.int 1), .unset] [(.long 1), (.long 2), (.long (-7046029254386353131)), (.long x2), (.long ((0 : Int64) + (x1 * (-7046029254386353131 : Int64))))])) _
    refine own_lmul X0.here hx (hb hby d_prog_59_method_3_code_27) ?_
    show Steps p.tables e below (s₁.setTop (mkF m 28 #[.val (.ref a1), .val (.int 1), .val (.int 2), .val (.long ((0 : Int64) + (x1 * (-7046029254386353131 : Int64)))), .second, .val (.int 1), .unset] [(.long 2), (.long (-7046029254386353131)), (.long x2), (.long ((0 : Int64) + (x1 * (-7046029254386353131 : Int64))))])) _
    refine own_ladd X0.here hx (hb hby d_prog_59_method_3_code_28) ?_
    show Steps p.tables e below (s₁.setTop (mkF m 29 #[.val (.ref a1), .val (.int 1), .val (.int 2), .val (.long ((0 : Int64) + (x1 * (-7046029254386353131 : Int64)))), .second, .val (.int 1), .unset] [(.long (-7046029254386353129)), (.long x2), (.long ((0 : Int64) + (x1 * (-7046029254386353131 : Int64))))])) _
    refine own_lmul X0.here hx (hb hby d_prog_59_method_3_code_29) ?_
    refine own_ladd X0.here hx (hb hby d_prog_59_method_3_code_30) ?_
    refine own_lstoreN X0.here hx (hb hby d_prog_59_method_3_code_31) (l' := #[.val (.ref a1), .val (.int 1), .val (.int 2), .val (.long (((0 : Int64) + (x1 * (-7046029254386353131 : Int64))) + (x2 * (-7046029254386353129 : Int64)))), .second, .val (.int 1), .unset]) rfl ?_
    refine own_iinc X0.here hx (1 : Int32) (hb hby d_prog_59_method_3_code_32) rfl rfl (l' := #[.val (.ref a1), .val (.int 1), .val (.int 2), .val (.long (((0 : Int64) + (x1 * (-7046029254386353131 : Int64))) + (x2 * (-7046029254386353129 : Int64)))), .second, .val (.int 2), .unset]) rfl ?_
    refine own_goto X0.here hx 35 5 rfl (hb hby d_prog_59_method_3_code_35) (by decide) (by decide) ?_
    refine own_iload X0.here hx (hb hby d_prog_59_method_3_code_5) rfl ?_
    refine own_iloadN X0.here hx (hb hby d_prog_59_method_3_code_7) rfl ?_
    refine own_icmpYes X0.here hx 8 38 rfl (hb hby d_prog_59_method_3_code_8) (flt (by decide : ¬ ((2 : Int32) < (2 : Int32)))).2.1 (by decide) (by decide) ?_
    refine own_lloadN X0.here hx (hb hby d_prog_59_method_3_code_38) rfl ?_
    refine own_lloadN X0.here hx (hb hby d_prog_59_method_3_code_39) rfl ?_
    refine own_bipush X0.here hx (33 : Int32) (hb hby d_prog_59_method_3_code_40) rfl ?_
    refine own_lushr X0.here hx (hb hby d_prog_59_method_3_code_42) ?_
    refine own_lxor X0.here hx (hb hby d_prog_59_method_3_code_43) ?_
    show Steps p.tables e below (s₁.setTop (mkF m 44 #[.val (.ref a1), .val (.int 1), .val (.int 2), .val (.long (((0 : Int64) + (x1 * (-7046029254386353131 : Int64))) + (x2 * (-7046029254386353129 : Int64)))), .second, .val (.int 2), .unset] [(.long (own_xs (((0 : Int64) + (x1 * (-7046029254386353131 : Int64))) + (x2 * (-7046029254386353129 : Int64)))))])) _
    refine X0.ldc2Long hx hown (mvT hZ (hw _ (List.mem_of_getElem? (i := 9) rfl))) (g := (mkF m 44 #[.val (.ref a1), .val (.int 1), .val (.int 2), .val (.long (((0 : Int64) + (x1 * (-7046029254386353131 : Int64))) + (x2 * (-7046029254386353129 : Int64)))), .second, .val (.int 2), .unset] [(.long (own_xs (((0 : Int64) + (x1 * (-7046029254386353131 : Int64))) + (x2 * (-7046029254386353129 : Int64)))))])) rfl (hb hby d_prog_59_method_3_code_44) _ ?_
    show Steps p.tables e below (s₁.setTop (mkF m 47 #[.val (.ref a1), .val (.int 1), .val (.int 2), .val (.long (((0 : Int64) + (x1 * (-7046029254386353131 : Int64))) + (x2 * (-7046029254386353129 : Int64)))), .second, .val (.int 2), .unset] [(.long (-49064778989728563)), (.long (own_xs (((0 : Int64) + (x1 * (-7046029254386353131 : Int64))) + (x2 * (-7046029254386353129 : Int64)))))])) _
    refine own_lmul X0.here hx (hb hby d_prog_59_method_3_code_47) ?_
    refine own_lstore X0.here hx (hb hby d_prog_59_method_3_code_48) (l' := #[.val (.ref a1), .val (.int 1), .val (.int 2), .val (.long (((0 : Int64) + (x1 * (-7046029254386353131 : Int64))) + (x2 * (-7046029254386353129 : Int64)))), .second, .val (.long ((own_xs (((0 : Int64) + (x1 * (-7046029254386353131 : Int64))) + (x2 * (-7046029254386353129 : Int64)))) * (-49064778989728563 : Int64))), .second]) rfl ?_
    refine own_lload X0.here hx (hb hby d_prog_59_method_3_code_50) rfl ?_
    refine own_lload X0.here hx (hb hby d_prog_59_method_3_code_52) rfl ?_
    refine own_bipush X0.here hx (33 : Int32) (hb hby d_prog_59_method_3_code_54) rfl ?_
    refine own_lushr X0.here hx (hb hby d_prog_59_method_3_code_56) ?_
    refine own_lxor X0.here hx (hb hby d_prog_59_method_3_code_57) ?_
    show Steps p.tables e below (s₁.setTop (mkF m 58 #[.val (.ref a1), .val (.int 1), .val (.int 2), .val (.long (((0 : Int64) + (x1 * (-7046029254386353131 : Int64))) + (x2 * (-7046029254386353129 : Int64)))), .second, .val (.long ((own_xs (((0 : Int64) + (x1 * (-7046029254386353131 : Int64))) + (x2 * (-7046029254386353129 : Int64)))) * (-49064778989728563 : Int64))), .second] [(.long (own_xs ((own_xs (((0 : Int64) + (x1 * (-7046029254386353131 : Int64))) + (x2 * (-7046029254386353129 : Int64)))) * (-49064778989728563 : Int64))))])) _
    refine X0.ldc2Long hx hown (mvT hZ (hw _ (List.mem_of_getElem? (i := 10) rfl))) (g := (mkF m 58 #[.val (.ref a1), .val (.int 1), .val (.int 2), .val (.long (((0 : Int64) + (x1 * (-7046029254386353131 : Int64))) + (x2 * (-7046029254386353129 : Int64)))), .second, .val (.long ((own_xs (((0 : Int64) + (x1 * (-7046029254386353131 : Int64))) + (x2 * (-7046029254386353129 : Int64)))) * (-49064778989728563 : Int64))), .second] [(.long (own_xs ((own_xs (((0 : Int64) + (x1 * (-7046029254386353131 : Int64))) + (x2 * (-7046029254386353129 : Int64)))) * (-49064778989728563 : Int64))))])) rfl (hb hby d_prog_59_method_3_code_58) _ ?_
    show Steps p.tables e below (s₁.setTop (mkF m 61 #[.val (.ref a1), .val (.int 1), .val (.int 2), .val (.long (((0 : Int64) + (x1 * (-7046029254386353131 : Int64))) + (x2 * (-7046029254386353129 : Int64)))), .second, .val (.long ((own_xs (((0 : Int64) + (x1 * (-7046029254386353131 : Int64))) + (x2 * (-7046029254386353129 : Int64)))) * (-49064778989728563 : Int64))), .second] [(.long (-4265267296055464877)), (.long (own_xs ((own_xs (((0 : Int64) + (x1 * (-7046029254386353131 : Int64))) + (x2 * (-7046029254386353129 : Int64)))) * (-49064778989728563 : Int64))))])) _
    refine own_lmul X0.here hx (hb hby d_prog_59_method_3_code_61) ?_
    refine own_lstore X0.here hx (hb hby d_prog_59_method_3_code_62) (l' := #[.val (.ref a1), .val (.int 1), .val (.int 2), .val (.long (((0 : Int64) + (x1 * (-7046029254386353131 : Int64))) + (x2 * (-7046029254386353129 : Int64)))), .second, .val (.long ((own_xs ((own_xs (((0 : Int64) + (x1 * (-7046029254386353131 : Int64))) + (x2 * (-7046029254386353129 : Int64)))) * (-49064778989728563 : Int64))) * (-4265267296055464877 : Int64))), .second]) rfl ?_
    refine own_lload X0.here hx (hb hby d_prog_59_method_3_code_64) rfl ?_
    refine own_lload X0.here hx (hb hby d_prog_59_method_3_code_66) rfl ?_
    refine own_bipush X0.here hx (33 : Int32) (hb hby d_prog_59_method_3_code_68) rfl ?_
    refine own_lushr X0.here hx (hb hby d_prog_59_method_3_code_70) ?_
    refine own_lxor X0.here hx (hb hby d_prog_59_method_3_code_71) ?_
    show Steps p.tables e below (s₁.setTop (mkF m 72 #[.val (.ref a1), .val (.int 1), .val (.int 2), .val (.long (((0 : Int64) + (x1 * (-7046029254386353131 : Int64))) + (x2 * (-7046029254386353129 : Int64)))), .second, .val (.long ((own_xs ((own_xs (((0 : Int64) + (x1 * (-7046029254386353131 : Int64))) + (x2 * (-7046029254386353129 : Int64)))) * (-49064778989728563 : Int64))) * (-4265267296055464877 : Int64))), .second] [(.long (own_xs ((own_xs ((own_xs (((0 : Int64) + (x1 * (-7046029254386353131 : Int64))) + (x2 * (-7046029254386353129 : Int64)))) * (-49064778989728563 : Int64))) * (-4265267296055464877 : Int64))))])) _
    exact X0.lreturnOut hx Bd.returns (hb hby d_prog_59_method_3_code_72) hr
  · show QF_1_2 Z a1 k1 x0 x1 x2 x3 x4 x5 h0 n0 _ s₁.heap _
    rw [e0]
    exact ⟨rfl, N0, rfl⟩
theorem ef_rmF_1_3 (m : MethodId) (x0 : Addr) (x1 : Int32) (x2 : Int32) : entryFrame m #[(.ref x0), (.int x1), (.int x2)] 7 = mkF m 0 #[.val (.ref x0), .val (.int x1), .val (.int x2), .unset, .unset, .unset, .unset] [] := by first | (simp [entryFrame, mkF, argsToLocals, Value.category]; done) | rfl
def QF_1_3 (Z : State) (a1 : Addr) (k1 : ClassId) (x0 : Int64) (x1 : Int64) (x2 : Int64) (x3 : Int64) (x4 : Int64) (x5 : Int64) (h0 : Heap) (n0 : Nat) (v : Option Value) (h : Heap) (L : List Loc) : Prop := v = some (.long (own_mix ((((0 : Int64) + (x1 * (-7046029254386353131 : Int64))) + (x2 * (-7046029254386353129 : Int64))) + (x3 * (-7046029254386353127 : Int64))))) ∧ Fr n0 L ∧ h = h0
set_option maxRecDepth 65536 in
set_option maxHeartbeats 40000000 in
theorem rmF_1_3 (l : Launch) (Z : State) (a0 : Array Value) (hw : ∀ d ∈ tables_1, d.before a0 Z = true) (ws : List Jvm.Cond) (a1 : Addr) (k1 : ClassId) (x0 : Int64) (x1 : Int64) (x2 : Int64) (x3 : Int64) (x4 : Int64) (x5 : Int64) (h0 : Heap) (n0 : Nat) (Z0 : n0 ≤ h0.size) (V1 : Arv Z h0 a1 k1 .long (6 : Int32) [(.long x0), (.long x1), (.long x2), (.long x3), (.long x4), (.long x5)] (.long (0 : Int64))) :
    MetFree l (⟨"com/example/naqsh/naqsh/mining/TransactionSets", "fingerprint", "([JII)J"⟩ : MethodName) (head1 (Jvm.Cond.code (⟨"com/example/naqsh/naqsh/mining/TransactionSets", "fingerprint", "([JII)J"⟩ : MethodName) prog_59_method_3_code 7 (some .long) :: ws) ({ frames := 0, cells := 0, slots := 0, locals := 0 } : Room)) (fun a U => a = #[(.ref a1), (.int 1), (.int 3)] ∧ Z.Warmed39 U.vm ∧ U.heap = h0) (fun _ _ _ _ _ => True) (fun _ U o U' => ∃ v L, o = .returned v ∧ QF_1_3 Z a1 k1 x0 x1 x2 x3 x4 x5 h0 n0 v U'.heap L ∧ FrameEnd U o U' L ({ frames := 0, cells := 0, slots := 0, locals := 0 } : Room).cells ({ frames := 0, cells := 0, slots := 0, locals := 0 } : Room).slots) := by
  refine MetFree.of_bodySF (plainFor_of_name pn_com_example_naqsh_naqsh_mining_TransactionSets) hisR ?_
  intro p e s m args below meth c s₁ Bd hml0 hP hK
  obtain ⟨rfl, hZ, hh⟩ := hP
  have hx := Bd.exec
  have hby := Bd.bytes
  have hml : c.maxLocals = 7 := hml0
  have hown : s.vm.findClass "com/example/naqsh/naqsh/mining/TransactionSets" = some m.cls := findClass_of_methodNamed Bd.named
  have hnm := (name_of_methodNamed Bd.named Bd.method).1
  have X0 : Stand p l e ({ frames := 0, cells := 0, slots := 0, locals := 0 } : Room) s m #[(.ref a1), (.int 1), (.int 3)] below meth c s₁ [] 0 0 := Stand.of_body Bd
  have e0 : s₁.heap = h0 := by rw [← hh, Bd.state]; rfl
  have N0 := Fr.nil n0
  have pre0 : ∀ tG, Steps p.tables e below (s₁.setTop (mkF m 0 #[.val (.ref a1), .val (.int 1), .val (.int 3), .unset, .unset, .unset, .unset] [])) tG → Steps p.tables e below (s₁.setTop (entryFrame m #[(.ref a1), (.int 1), (.int 3)] 7)) tG := fun tG kG => castTop (ef_rmF_1_3 m a1 (1 : Int32) (3 : Int32)) kG
  obtain ⟨cl16, Ar16, q16, S16, M16, H16, J16⟩ := id V1
  have hin16 : ¬ ((1 : Int32) < 0 ∨ cl16.slots.size ≤ ((1 : Int32)).toNatClampNeg) := inb_of S16 ⟨by decide, by decide⟩
  have hat16 : cl16.slots[((1 : Int32)).toNatClampNeg]? = some (.long x1) := Has.at H16 hin16 rfl
  obtain ⟨cl17, Ar17, q17, S17, M17, H17, J17⟩ := id V1
  have hin17 : ¬ ((2 : Int32) < 0 ∨ cl17.slots.size ≤ ((2 : Int32)).toNatClampNeg) := inb_of S17 ⟨by decide, by decide⟩
  have hat17 : cl17.slots[((2 : Int32)).toNatClampNeg]? = some (.long x2) := Has.at H17 hin17 rfl
  obtain ⟨cl18, Ar18, q18, S18, M18, H18, J18⟩ := id V1
  have hin18 : ¬ ((3 : Int32) < 0 ∨ cl18.slots.size ≤ ((3 : Int32)).toNatClampNeg) := inb_of S18 ⟨by decide, by decide⟩
  have hat18 : cl18.slots[((3 : Int32)).toNatClampNeg]? = some (.long x3) := Has.at H18 hin18 rfl
  obtain ⟨fs, hr, hrun, hended, hW, hsame⟩ := X0.leave (v := some (.long (own_xs ((own_xs ((own_xs ((((0 : Int64) + (x1 * (-7046029254386353131 : Int64))) + (x2 * (-7046029254386353129 : Int64))) + (x3 * (-7046029254386353127 : Int64)))) * (-49064778989728563 : Int64))) * (-4265267296055464877 : Int64))))) (fun h => by rw [Bd.returns] at h; cases h)
  refine ⟨_, _, pre0 _ ?_, hrun, hended, _, _, rfl, ?_, ⟨_, rfl⟩, hW, hsame.mono (by decide) (by decide)⟩
  · refine own_lconst0 X0.here hx (hb hby d_prog_59_method_3_code_0) ?_
    refine own_lstoreN X0.here hx (hb hby d_prog_59_method_3_code_1) (l' := #[.val (.ref a1), .val (.int 1), .val (.int 3), .val (.long 0), .second, .unset, .unset]) rfl ?_
    refine own_iconst X0.here hx (0 : Int32) (hb hby d_prog_59_method_3_code_2) rfl ?_
    refine own_istore X0.here hx (hb hby d_prog_59_method_3_code_3) (l' := #[.val (.ref a1), .val (.int 1), .val (.int 3), .val (.long 0), .second, .val (.int 0), .unset]) rfl ?_
    refine own_iload X0.here hx (hb hby d_prog_59_method_3_code_5) rfl ?_
    refine own_iloadN X0.here hx (hb hby d_prog_59_method_3_code_7) rfl ?_
    refine own_icmpNo X0.here hx (hb hby d_prog_59_method_3_code_8) (tlt (by decide : (0 : Int32) < (3 : Int32))).2.1 ?_
    refine own_lloadN X0.here hx (hb hby d_prog_59_method_3_code_11) rfl ?_
    refine own_aloadN X0.here hx (hb hby d_prog_59_method_3_code_12) rfl rfl ?_
    refine own_iloadN X0.here hx (hb hby d_prog_59_method_3_code_13) rfl ?_
    refine own_iload X0.here hx (hb hby d_prog_59_method_3_code_14) rfl ?_
    refine own_iadd X0.here hx (hb hby d_prog_59_method_3_code_16) ?_
    show Steps p.tables e below (s₁.setTop (mkF m 17 #[.val (.ref a1), .val (.int 1), .val (.int 3), .val (.long 0), .second, .val (.int 0), .unset] [(.int 1), (.ref a1), (.long 0)])) _
    refine X0.laload hx (j := (1 : Int32)) (v := (.long x1)) (by rw [e0]; exact Ar16.1) (State.isArrayOf_alike hZ.alike Ar16.2.1) Ar16.2.2 hin16 hat16 (g := (mkF m 17 #[.val (.ref a1), .val (.int 1), .val (.int 3), .val (.long 0), .second, .val (.int 0), .unset] [(.int 1), (.ref a1), (.long 0)])) rfl rfl (hb hby d_prog_59_method_3_code_17) _ ?_
    show Steps p.tables e below (s₁.setTop (mkF m 18 #[.val (.ref a1), .val (.int 1), .val (.int 3), .val (.long 0), .second, .val (.int 0), .unset] [(.long x1), (.long 0)])) _
    refine X0.ldc2Long hx hown (mvT hZ (hw _ (List.mem_of_getElem? (i := 7) rfl))) (g := (mkF m 18 #[.val (.ref a1), .val (.int 1), .val (.int 3), .val (.long 0), .second, .val (.int 0), .unset] [(.long x1), (.long 0)])) rfl (hb hby d_prog_59_method_3_code_18) _ ?_
    show Steps p.tables e below (s₁.setTop (mkF m 21 #[.val (.ref a1), .val (.int 1), .val (.int 3), .val (.long 0), .second, .val (.int 0), .unset] [(.long (-7046029254386353131)), (.long x1), (.long 0)])) _
    refine X0.ldc2Long hx hown (mvT hZ (hw _ (List.mem_of_getElem? (i := 8) rfl))) (g := (mkF m 21 #[.val (.ref a1), .val (.int 1), .val (.int 3), .val (.long 0), .second, .val (.int 0), .unset] [(.long (-7046029254386353131)), (.long x1), (.long 0)])) rfl (hb hby d_prog_59_method_3_code_21) _ ?_
    show Steps p.tables e below (s₁.setTop (mkF m 24 #[.val (.ref a1), .val (.int 1), .val (.int 3), .val (.long 0), .second, .val (.int 0), .unset] [(.long 2), (.long (-7046029254386353131)), (.long x1), (.long 0)])) _
    refine own_iload X0.here hx (hb hby d_prog_59_method_3_code_24) rfl ?_
    refine own_i2l X0.here hx (hb hby d_prog_59_method_3_code_26) ?_
    show Steps p.tables e below (s₁.setTop (mkF m 27 #[.val (.ref a1), .val (.int 1), .val (.int 3), .val (.long 0), .second, .val (.int 0), .unset] [(.long 0), (.long 2), (.long (-7046029254386353131)), (.long x1), (.long 0)])) _
    refine own_lmul X0.here hx (hb hby d_prog_59_method_3_code_27) ?_
    show Steps p.tables e below (s₁.setTop (mkF m 28 #[.val (.ref a1), .val (.int 1), .val (.int 3), .val (.long 0), .second, .val (.int 0), .unset] [(.long 0), (.long (-7046029254386353131)), (.long x1), (.long 0)])) _
    refine own_ladd X0.here hx (hb hby d_prog_59_method_3_code_28) ?_
    show Steps p.tables e below (s₁.setTop (mkF m 29 #[.val (.ref a1), .val (.int 1), .val (.int 3), .val (.long 0), .second, .val (.int 0), .unset] [(.long (-7046029254386353131)), (.long x1), (.long 0)])) _
    refine own_lmul X0.here hx (hb hby d_prog_59_method_3_code_29) ?_
    refine own_ladd X0.here hx (hb hby d_prog_59_method_3_code_30) ?_
    refine own_lstoreN X0.here hx (hb hby d_prog_59_method_3_code_31) (l' := #[.val (.ref a1), .val (.int 1), .val (.int 3), .val (.long ((0 : Int64) + (x1 * (-7046029254386353131 : Int64)))), .second, .val (.int 0), .unset]) rfl ?_
    refine own_iinc X0.here hx (1 : Int32) (hb hby d_prog_59_method_3_code_32) rfl rfl (l' := #[.val (.ref a1), .val (.int 1), .val (.int 3), .val (.long ((0 : Int64) + (x1 * (-7046029254386353131 : Int64)))), .second, .val (.int 1), .unset]) rfl ?_
    refine own_goto X0.here hx 35 5 rfl (hb hby d_prog_59_method_3_code_35) (by decide) (by decide) ?_
    refine own_iload X0.here hx (hb hby d_prog_59_method_3_code_5) rfl ?_
    refine own_iloadN X0.here hx (hb hby d_prog_59_method_3_code_7) rfl ?_
    refine own_icmpNo X0.here hx (hb hby d_prog_59_method_3_code_8) (tlt (by decide : (1 : Int32) < (3 : Int32))).2.1 ?_
    refine own_lloadN X0.here hx (hb hby d_prog_59_method_3_code_11) rfl ?_
    refine own_aloadN X0.here hx (hb hby d_prog_59_method_3_code_12) rfl rfl ?_
    refine own_iloadN X0.here hx (hb hby d_prog_59_method_3_code_13) rfl ?_
    refine own_iload X0.here hx (hb hby d_prog_59_method_3_code_14) rfl ?_
    refine own_iadd X0.here hx (hb hby d_prog_59_method_3_code_16) ?_
    show Steps p.tables e below (s₁.setTop (mkF m 17 #[.val (.ref a1), .val (.int 1), .val (.int 3), .val (.long ((0 : Int64) + (x1 * (-7046029254386353131 : Int64)))), .second, .val (.int 1), .unset] [(.int 2), (.ref a1), (.long ((0 : Int64) + (x1 * (-7046029254386353131 : Int64))))])) _
    refine X0.laload hx (j := (2 : Int32)) (v := (.long x2)) (by rw [e0]; exact Ar17.1) (State.isArrayOf_alike hZ.alike Ar17.2.1) Ar17.2.2 hin17 hat17 (g := (mkF m 17 #[.val (.ref a1), .val (.int 1), .val (.int 3), .val (.long ((0 : Int64) + (x1 * (-7046029254386353131 : Int64)))), .second, .val (.int 1), .unset] [(.int 2), (.ref a1), (.long ((0 : Int64) + (x1 * (-7046029254386353131 : Int64))))])) rfl rfl (hb hby d_prog_59_method_3_code_17) _ ?_
    show Steps p.tables e below (s₁.setTop (mkF m 18 #[.val (.ref a1), .val (.int 1), .val (.int 3), .val (.long ((0 : Int64) + (x1 * (-7046029254386353131 : Int64)))), .second, .val (.int 1), .unset] [(.long x2), (.long ((0 : Int64) + (x1 * (-7046029254386353131 : Int64))))])) _
    refine X0.ldc2Long hx hown (mvT hZ (hw _ (List.mem_of_getElem? (i := 7) rfl))) (g := (mkF m 18 #[.val (.ref a1), .val (.int 1), .val (.int 3), .val (.long ((0 : Int64) + (x1 * (-7046029254386353131 : Int64)))), .second, .val (.int 1), .unset] [(.long x2), (.long ((0 : Int64) + (x1 * (-7046029254386353131 : Int64))))])) rfl (hb hby d_prog_59_method_3_code_18) _ ?_
    show Steps p.tables e below (s₁.setTop (mkF m 21 #[.val (.ref a1), .val (.int 1), .val (.int 3), .val (.long ((0 : Int64) + (x1 * (-7046029254386353131 : Int64)))), .second, .val (.int 1), .unset] [(.long (-7046029254386353131)), (.long x2), (.long ((0 : Int64) + (x1 * (-7046029254386353131 : Int64))))])) _
    refine X0.ldc2Long hx hown (mvT hZ (hw _ (List.mem_of_getElem? (i := 8) rfl))) (g := (mkF m 21 #[.val (.ref a1), .val (.int 1), .val (.int 3), .val (.long ((0 : Int64) + (x1 * (-7046029254386353131 : Int64)))), .second, .val (.int 1), .unset] [(.long (-7046029254386353131)), (.long x2), (.long ((0 : Int64) + (x1 * (-7046029254386353131 : Int64))))])) rfl (hb hby d_prog_59_method_3_code_21) _ ?_
    show Steps p.tables e below (s₁.setTop (mkF m 24 #[.val (.ref a1), .val (.int 1), .val (.int 3), .val (.long ((0 : Int64) + (x1 * (-7046029254386353131 : Int64)))), .second, .val (.int 1), .unset] [(.long 2), (.long (-7046029254386353131)), (.long x2), (.long ((0 : Int64) + (x1 * (-7046029254386353131 : Int64))))])) _
    refine own_iload X0.here hx (hb hby d_prog_59_method_3_code_24) rfl ?_
    refine own_i2l X0.here hx (hb hby d_prog_59_method_3_code_26) ?_
    show Steps p.tables e below (s₁.setTop (mkF m 27 #[.val (.ref a1), .val (.int 1), .val (.int 3), .val (.long ((0 : Int64) + (x1 * (-7046029254386353131 : Int64)))), .second, .val (.int 1), .unset] [(.long 1), (.long 2), (.long (-7046029254386353131)), (.long x2), (.long ((0 : Int64) + (x1 * (-7046029254386353131 : Int64))))])) _
    refine own_lmul X0.here hx (hb hby d_prog_59_method_3_code_27) ?_
    show Steps p.tables e below (s₁.setTop (mkF m 28 #[.val (.ref a1), .val (.int 1), .val (.int 3), .val (.long ((0 : Int64) + (x1 * (-7046029254386353131 : Int64)))), .second, .val (.int 1), .unset] [(.long 2), (.long (-7046029254386353131)), (.long x2), (.long ((0 : Int64) + (x1 * (-7046029254386353131 : Int64))))])) _
    refine own_ladd X0.here hx (hb hby d_prog_59_method_3_code_28) ?_
    show Steps p.tables e below (s₁.setTop (mkF m 29 #[.val (.ref a1), .val (.int 1), .val (.int 3), .val (.long ((0 : Int64) + (x1 * (-7046029254386353131 : Int64)))), .second, .val (.int 1), .unset] [(.long (-7046029254386353129)), (.long x2), (.long ((0 : Int64) + (x1 * (-7046029254386353131 : Int64))))])) _
    refine own_lmul X0.here hx (hb hby d_prog_59_method_3_code_29) ?_
    refine own_ladd X0.here hx (hb hby d_prog_59_method_3_code_30) ?_
    refine own_lstoreN X0.here hx (hb hby d_prog_59_method_3_code_31) (l' := #[.val (.ref a1), .val (.int 1), .val (.int 3), .val (.long (((0 : Int64) + (x1 * (-7046029254386353131 : Int64))) + (x2 * (-7046029254386353129 : Int64)))), .second, .val (.int 1), .unset]) rfl ?_
    refine own_iinc X0.here hx (1 : Int32) (hb hby d_prog_59_method_3_code_32) rfl rfl (l' := #[.val (.ref a1), .val (.int 1), .val (.int 3), .val (.long (((0 : Int64) + (x1 * (-7046029254386353131 : Int64))) + (x2 * (-7046029254386353129 : Int64)))), .second, .val (.int 2), .unset]) rfl ?_
    refine own_goto X0.here hx 35 5 rfl (hb hby d_prog_59_method_3_code_35) (by decide) (by decide) ?_
    refine own_iload X0.here hx (hb hby d_prog_59_method_3_code_5) rfl ?_
    refine own_iloadN X0.here hx (hb hby d_prog_59_method_3_code_7) rfl ?_
    refine own_icmpNo X0.here hx (hb hby d_prog_59_method_3_code_8) (tlt (by decide : (2 : Int32) < (3 : Int32))).2.1 ?_
    refine own_lloadN X0.here hx (hb hby d_prog_59_method_3_code_11) rfl ?_
    refine own_aloadN X0.here hx (hb hby d_prog_59_method_3_code_12) rfl rfl ?_
    refine own_iloadN X0.here hx (hb hby d_prog_59_method_3_code_13) rfl ?_
    refine own_iload X0.here hx (hb hby d_prog_59_method_3_code_14) rfl ?_
    refine own_iadd X0.here hx (hb hby d_prog_59_method_3_code_16) ?_
    show Steps p.tables e below (s₁.setTop (mkF m 17 #[.val (.ref a1), .val (.int 1), .val (.int 3), .val (.long (((0 : Int64) + (x1 * (-7046029254386353131 : Int64))) + (x2 * (-7046029254386353129 : Int64)))), .second, .val (.int 2), .unset] [(.int 3), (.ref a1), (.long (((0 : Int64) + (x1 * (-7046029254386353131 : Int64))) + (x2 * (-7046029254386353129 : Int64))))])) _
    refine X0.laload hx (j := (3 : Int32)) (v := (.long x3)) (by rw [e0]; exact Ar18.1) (State.isArrayOf_alike hZ.alike Ar18.2.1) Ar18.2.2 hin18 hat18 (g := (mkF m 17 #[.val (.ref a1), .val (.int 1), .val (.int 3), .val (.long (((0 : Int64) + (x1 * (-7046029254386353131 : Int64))) + (x2 * (-7046029254386353129 : Int64)))), .second, .val (.int 2), .unset] [(.int 3), (.ref a1), (.long (((0 : Int64) + (x1 * (-7046029254386353131 : Int64))) + (x2 * (-7046029254386353129 : Int64))))])) rfl rfl (hb hby d_prog_59_method_3_code_17) _ ?_
    show Steps p.tables e below (s₁.setTop (mkF m 18 #[.val (.ref a1), .val (.int 1), .val (.int 3), .val (.long (((0 : Int64) + (x1 * (-7046029254386353131 : Int64))) + (x2 * (-7046029254386353129 : Int64)))), .second, .val (.int 2), .unset] [(.long x3), (.long (((0 : Int64) + (x1 * (-7046029254386353131 : Int64))) + (x2 * (-7046029254386353129 : Int64))))])) _
    refine X0.ldc2Long hx hown (mvT hZ (hw _ (List.mem_of_getElem? (i := 7) rfl))) (g := (mkF m 18 #[.val (.ref a1), .val (.int 1), .val (.int 3), .val (.long (((0 : Int64) + (x1 * (-7046029254386353131 : Int64))) + (x2 * (-7046029254386353129 : Int64)))), .second, .val (.int 2), .unset] [(.long x3), (.long (((0 : Int64) + (x1 * (-7046029254386353131 : Int64))) + (x2 * (-7046029254386353129 : Int64))))])) rfl (hb hby d_prog_59_method_3_code_18) _ ?_
    show Steps p.tables e below (s₁.setTop (mkF m 21 #[.val (.ref a1), .val (.int 1), .val (.int 3), .val (.long (((0 : Int64) + (x1 * (-7046029254386353131 : Int64))) + (x2 * (-7046029254386353129 : Int64)))), .second, .val (.int 2), .unset] [(.long (-7046029254386353131)), (.long x3), (.long (((0 : Int64) + (x1 * (-7046029254386353131 : Int64))) + (x2 * (-7046029254386353129 : Int64))))])) _
    refine X0.ldc2Long hx hown (mvT hZ (hw _ (List.mem_of_getElem? (i := 8) rfl))) (g := (mkF m 21 #[.val (.ref a1), .val (.int 1), .val (.int 3), .val (.long (((0 : Int64) + (x1 * (-7046029254386353131 : Int64))) + (x2 * (-7046029254386353129 : Int64)))), .second, .val (.int 2), .unset] [(.long (-7046029254386353131)), (.long x3), (.long (((0 : Int64) + (x1 * (-7046029254386353131 : Int64))) + (x2 * (-7046029254386353129 : Int64))))])) rfl (hb hby d_prog_59_method_3_code_21) _ ?_
    show Steps p.tables e below (s₁.setTop (mkF m 24 #[.val (.ref a1), .val (.int 1), .val (.int 3), .val (.long (((0 : Int64) + (x1 * (-7046029254386353131 : Int64))) + (x2 * (-7046029254386353129 : Int64)))), .second, .val (.int 2), .unset] [(.long 2), (.long (-7046029254386353131)), (.long x3), (.long (((0 : Int64) + (x1 * (-7046029254386353131 : Int64))) + (x2 * (-7046029254386353129 : Int64))))])) _
    refine own_iload X0.here hx (hb hby d_prog_59_method_3_code_24) rfl ?_
    refine own_i2l X0.here hx (hb hby d_prog_59_method_3_code_26) ?_
    show Steps p.tables e below (s₁.setTop (mkF m 27 #[.val (.ref a1), .val (.int 1), .val (.int 3), .val (.long (((0 : Int64) + (x1 * (-7046029254386353131 : Int64))) + (x2 * (-7046029254386353129 : Int64)))), .second, .val (.int 2), .unset] [(.long 2), (.long 2), (.long (-7046029254386353131)), (.long x3), (.long (((0 : Int64) + (x1 * (-7046029254386353131 : Int64))) + (x2 * (-7046029254386353129 : Int64))))])) _
    refine own_lmul X0.here hx (hb hby d_prog_59_method_3_code_27) ?_
    show Steps p.tables e below (s₁.setTop (mkF m 28 #[.val (.ref a1), .val (.int 1), .val (.int 3), .val (.long (((0 : Int64) + (x1 * (-7046029254386353131 : Int64))) + (x2 * (-7046029254386353129 : Int64)))), .second, .val (.int 2), .unset] [(.long 4), (.long (-7046029254386353131)), (.long x3), (.long (((0 : Int64) + (x1 * (-7046029254386353131 : Int64))) + (x2 * (-7046029254386353129 : Int64))))])) _
    refine own_ladd X0.here hx (hb hby d_prog_59_method_3_code_28) ?_
    show Steps p.tables e below (s₁.setTop (mkF m 29 #[.val (.ref a1), .val (.int 1), .val (.int 3), .val (.long (((0 : Int64) + (x1 * (-7046029254386353131 : Int64))) + (x2 * (-7046029254386353129 : Int64)))), .second, .val (.int 2), .unset] [(.long (-7046029254386353127)), (.long x3), (.long (((0 : Int64) + (x1 * (-7046029254386353131 : Int64))) + (x2 * (-7046029254386353129 : Int64))))])) _
    refine own_lmul X0.here hx (hb hby d_prog_59_method_3_code_29) ?_
    refine own_ladd X0.here hx (hb hby d_prog_59_method_3_code_30) ?_
    refine own_lstoreN X0.here hx (hb hby d_prog_59_method_3_code_31) (l' := #[.val (.ref a1), .val (.int 1), .val (.int 3), .val (.long ((((0 : Int64) + (x1 * (-7046029254386353131 : Int64))) + (x2 * (-7046029254386353129 : Int64))) + (x3 * (-7046029254386353127 : Int64)))), .second, .val (.int 2), .unset]) rfl ?_
    refine own_iinc X0.here hx (1 : Int32) (hb hby d_prog_59_method_3_code_32) rfl rfl (l' := #[.val (.ref a1), .val (.int 1), .val (.int 3), .val (.long ((((0 : Int64) + (x1 * (-7046029254386353131 : Int64))) + (x2 * (-7046029254386353129 : Int64))) + (x3 * (-7046029254386353127 : Int64)))), .second, .val (.int 3), .unset]) rfl ?_
    refine own_goto X0.here hx 35 5 rfl (hb hby d_prog_59_method_3_code_35) (by decide) (by decide) ?_
    refine own_iload X0.here hx (hb hby d_prog_59_method_3_code_5) rfl ?_
    refine own_iloadN X0.here hx (hb hby d_prog_59_method_3_code_7) rfl ?_
    refine own_icmpYes X0.here hx 8 38 rfl (hb hby d_prog_59_method_3_code_8) (flt (by decide : ¬ ((3 : Int32) < (3 : Int32)))).2.1 (by decide) (by decide) ?_
    refine own_lloadN X0.here hx (hb hby d_prog_59_method_3_code_38) rfl ?_
    refine own_lloadN X0.here hx (hb hby d_prog_59_method_3_code_39) rfl ?_
    refine own_bipush X0.here hx (33 : Int32) (hb hby d_prog_59_method_3_code_40) rfl ?_
    refine own_lushr X0.here hx (hb hby d_prog_59_method_3_code_42) ?_
    refine own_lxor X0.here hx (hb hby d_prog_59_method_3_code_43) ?_
    show Steps p.tables e below (s₁.setTop (mkF m 44 #[.val (.ref a1), .val (.int 1), .val (.int 3), .val (.long ((((0 : Int64) + (x1 * (-7046029254386353131 : Int64))) + (x2 * (-7046029254386353129 : Int64))) + (x3 * (-7046029254386353127 : Int64)))), .second, .val (.int 3), .unset] [(.long (own_xs ((((0 : Int64) + (x1 * (-7046029254386353131 : Int64))) + (x2 * (-7046029254386353129 : Int64))) + (x3 * (-7046029254386353127 : Int64)))))])) _
    refine X0.ldc2Long hx hown (mvT hZ (hw _ (List.mem_of_getElem? (i := 9) rfl))) (g := (mkF m 44 #[.val (.ref a1), .val (.int 1), .val (.int 3), .val (.long ((((0 : Int64) + (x1 * (-7046029254386353131 : Int64))) + (x2 * (-7046029254386353129 : Int64))) + (x3 * (-7046029254386353127 : Int64)))), .second, .val (.int 3), .unset] [(.long (own_xs ((((0 : Int64) + (x1 * (-7046029254386353131 : Int64))) + (x2 * (-7046029254386353129 : Int64))) + (x3 * (-7046029254386353127 : Int64)))))])) rfl (hb hby d_prog_59_method_3_code_44) _ ?_
    show Steps p.tables e below (s₁.setTop (mkF m 47 #[.val (.ref a1), .val (.int 1), .val (.int 3), .val (.long ((((0 : Int64) + (x1 * (-7046029254386353131 : Int64))) + (x2 * (-7046029254386353129 : Int64))) + (x3 * (-7046029254386353127 : Int64)))), .second, .val (.int 3), .unset] [(.long (-49064778989728563)), (.long (own_xs ((((0 : Int64) + (x1 * (-7046029254386353131 : Int64))) + (x2 * (-7046029254386353129 : Int64))) + (x3 * (-7046029254386353127 : Int64)))))])) _
    refine own_lmul X0.here hx (hb hby d_prog_59_method_3_code_47) ?_
    refine own_lstore X0.here hx (hb hby d_prog_59_method_3_code_48) (l' := #[.val (.ref a1), .val (.int 1), .val (.int 3), .val (.long ((((0 : Int64) + (x1 * (-7046029254386353131 : Int64))) + (x2 * (-7046029254386353129 : Int64))) + (x3 * (-7046029254386353127 : Int64)))), .second, .val (.long ((own_xs ((((0 : Int64) + (x1 * (-7046029254386353131 : Int64))) + (x2 * (-7046029254386353129 : Int64))) + (x3 * (-7046029254386353127 : Int64)))) * (-49064778989728563 : Int64))), .second]) rfl ?_
    refine own_lload X0.here hx (hb hby d_prog_59_method_3_code_50) rfl ?_
    refine own_lload X0.here hx (hb hby d_prog_59_method_3_code_52) rfl ?_
    refine own_bipush X0.here hx (33 : Int32) (hb hby d_prog_59_method_3_code_54) rfl ?_
    refine own_lushr X0.here hx (hb hby d_prog_59_method_3_code_56) ?_
    refine own_lxor X0.here hx (hb hby d_prog_59_method_3_code_57) ?_
    show Steps p.tables e below (s₁.setTop (mkF m 58 #[.val (.ref a1), .val (.int 1), .val (.int 3), .val (.long ((((0 : Int64) + (x1 * (-7046029254386353131 : Int64))) + (x2 * (-7046029254386353129 : Int64))) + (x3 * (-7046029254386353127 : Int64)))), .second, .val (.long ((own_xs ((((0 : Int64) + (x1 * (-7046029254386353131 : Int64))) + (x2 * (-7046029254386353129 : Int64))) + (x3 * (-7046029254386353127 : Int64)))) * (-49064778989728563 : Int64))), .second] [(.long (own_xs ((own_xs ((((0 : Int64) + (x1 * (-7046029254386353131 : Int64))) + (x2 * (-7046029254386353129 : Int64))) + (x3 * (-7046029254386353127 : Int64)))) * (-49064778989728563 : Int64))))])) _
    refine X0.ldc2Long hx hown (mvT hZ (hw _ (List.mem_of_getElem? (i := 10) rfl))) (g := (mkF m 58 #[.val (.ref a1), .val (.int 1), .val (.int 3), .val (.long ((((0 : Int64) + (x1 * (-7046029254386353131 : Int64))) + (x2 * (-7046029254386353129 : Int64))) + (x3 * (-7046029254386353127 : Int64)))), .second, .val (.long ((own_xs ((((0 : Int64) + (x1 * (-7046029254386353131 : Int64))) + (x2 * (-7046029254386353129 : Int64))) + (x3 * (-7046029254386353127 : Int64)))) * (-49064778989728563 : Int64))), .second] [(.long (own_xs ((own_xs ((((0 : Int64) + (x1 * (-7046029254386353131 : Int64))) + (x2 * (-7046029254386353129 : Int64))) + (x3 * (-7046029254386353127 : Int64)))) * (-49064778989728563 : Int64))))])) rfl (hb hby d_prog_59_method_3_code_58) _ ?_
    show Steps p.tables e below (s₁.setTop (mkF m 61 #[.val (.ref a1), .val (.int 1), .val (.int 3), .val (.long ((((0 : Int64) + (x1 * (-7046029254386353131 : Int64))) + (x2 * (-7046029254386353129 : Int64))) + (x3 * (-7046029254386353127 : Int64)))), .second, .val (.long ((own_xs ((((0 : Int64) + (x1 * (-7046029254386353131 : Int64))) + (x2 * (-7046029254386353129 : Int64))) + (x3 * (-7046029254386353127 : Int64)))) * (-49064778989728563 : Int64))), .second] [(.long (-4265267296055464877)), (.long (own_xs ((own_xs ((((0 : Int64) + (x1 * (-7046029254386353131 : Int64))) + (x2 * (-7046029254386353129 : Int64))) + (x3 * (-7046029254386353127 : Int64)))) * (-49064778989728563 : Int64))))])) _
    refine own_lmul X0.here hx (hb hby d_prog_59_method_3_code_61) ?_
    refine own_lstore X0.here hx (hb hby d_prog_59_method_3_code_62) (l' := #[.val (.ref a1), .val (.int 1), .val (.int 3), .val (.long ((((0 : Int64) + (x1 * (-7046029254386353131 : Int64))) + (x2 * (-7046029254386353129 : Int64))) + (x3 * (-7046029254386353127 : Int64)))), .second, .val (.long ((own_xs ((own_xs ((((0 : Int64) + (x1 * (-7046029254386353131 : Int64))) + (x2 * (-7046029254386353129 : Int64))) + (x3 * (-7046029254386353127 : Int64)))) * (-49064778989728563 : Int64))) * (-4265267296055464877 : Int64))), .second]) rfl ?_
    refine own_lload X0.here hx (hb hby d_prog_59_method_3_code_64) rfl ?_
    refine own_lload X0.here hx (hb hby d_prog_59_method_3_code_66) rfl ?_
    refine own_bipush X0.here hx (33 : Int32) (hb hby d_prog_59_method_3_code_68) rfl ?_
    refine own_lushr X0.here hx (hb hby d_prog_59_method_3_code_70) ?_
    refine own_lxor X0.here hx (hb hby d_prog_59_method_3_code_71) ?_
    show Steps p.tables e below (s₁.setTop (mkF m 72 #[.val (.ref a1), .val (.int 1), .val (.int 3), .val (.long ((((0 : Int64) + (x1 * (-7046029254386353131 : Int64))) + (x2 * (-7046029254386353129 : Int64))) + (x3 * (-7046029254386353127 : Int64)))), .second, .val (.long ((own_xs ((own_xs ((((0 : Int64) + (x1 * (-7046029254386353131 : Int64))) + (x2 * (-7046029254386353129 : Int64))) + (x3 * (-7046029254386353127 : Int64)))) * (-49064778989728563 : Int64))) * (-4265267296055464877 : Int64))), .second] [(.long (own_xs ((own_xs ((own_xs ((((0 : Int64) + (x1 * (-7046029254386353131 : Int64))) + (x2 * (-7046029254386353129 : Int64))) + (x3 * (-7046029254386353127 : Int64)))) * (-49064778989728563 : Int64))) * (-4265267296055464877 : Int64))))])) _
    exact X0.lreturnOut hx Bd.returns (hb hby d_prog_59_method_3_code_72) hr
  · show QF_1_3 Z a1 k1 x0 x1 x2 x3 x4 x5 h0 n0 _ s₁.heap _
    rw [e0]
    exact ⟨rfl, N0, rfl⟩
theorem ef_rmF_1_4 (m : MethodId) (x0 : Addr) (x1 : Int32) (x2 : Int32) : entryFrame m #[(.ref x0), (.int x1), (.int x2)] 7 = mkF m 0 #[.val (.ref x0), .val (.int x1), .val (.int x2), .unset, .unset, .unset, .unset] [] := by first | (simp [entryFrame, mkF, argsToLocals, Value.category]; done) | rfl
def QF_1_4 (Z : State) (a1 : Addr) (k1 : ClassId) (x0 : Int64) (x1 : Int64) (x2 : Int64) (x3 : Int64) (x4 : Int64) (x5 : Int64) (h0 : Heap) (n0 : Nat) (v : Option Value) (h : Heap) (L : List Loc) : Prop := v = some (.long (own_mix (((((0 : Int64) + (x1 * (-7046029254386353131 : Int64))) + (x2 * (-7046029254386353129 : Int64))) + (x3 * (-7046029254386353127 : Int64))) + (x4 * (-7046029254386353125 : Int64))))) ∧ Fr n0 L ∧ h = h0
set_option maxRecDepth 65536 in
set_option maxHeartbeats 40000000 in
theorem rmF_1_4 (l : Launch) (Z : State) (a0 : Array Value) (hw : ∀ d ∈ tables_1, d.before a0 Z = true) (ws : List Jvm.Cond) (a1 : Addr) (k1 : ClassId) (x0 : Int64) (x1 : Int64) (x2 : Int64) (x3 : Int64) (x4 : Int64) (x5 : Int64) (h0 : Heap) (n0 : Nat) (Z0 : n0 ≤ h0.size) (V1 : Arv Z h0 a1 k1 .long (6 : Int32) [(.long x0), (.long x1), (.long x2), (.long x3), (.long x4), (.long x5)] (.long (0 : Int64))) :
    MetFree l (⟨"com/example/naqsh/naqsh/mining/TransactionSets", "fingerprint", "([JII)J"⟩ : MethodName) (head1 (Jvm.Cond.code (⟨"com/example/naqsh/naqsh/mining/TransactionSets", "fingerprint", "([JII)J"⟩ : MethodName) prog_59_method_3_code 7 (some .long) :: ws) ({ frames := 0, cells := 0, slots := 0, locals := 0 } : Room)) (fun a U => a = #[(.ref a1), (.int 1), (.int 4)] ∧ Z.Warmed39 U.vm ∧ U.heap = h0) (fun _ _ _ _ _ => True) (fun _ U o U' => ∃ v L, o = .returned v ∧ QF_1_4 Z a1 k1 x0 x1 x2 x3 x4 x5 h0 n0 v U'.heap L ∧ FrameEnd U o U' L ({ frames := 0, cells := 0, slots := 0, locals := 0 } : Room).cells ({ frames := 0, cells := 0, slots := 0, locals := 0 } : Room).slots) := by
  refine MetFree.of_bodySF (plainFor_of_name pn_com_example_naqsh_naqsh_mining_TransactionSets) hisR ?_
  intro p e s m args below meth c s₁ Bd hml0 hP hK
  obtain ⟨rfl, hZ, hh⟩ := hP
  have hx := Bd.exec
  have hby := Bd.bytes
  have hml : c.maxLocals = 7 := hml0
  have hown : s.vm.findClass "com/example/naqsh/naqsh/mining/TransactionSets" = some m.cls := findClass_of_methodNamed Bd.named
  have hnm := (name_of_methodNamed Bd.named Bd.method).1
  have X0 : Stand p l e ({ frames := 0, cells := 0, slots := 0, locals := 0 } : Room) s m #[(.ref a1), (.int 1), (.int 4)] below meth c s₁ [] 0 0 := Stand.of_body Bd
  have e0 : s₁.heap = h0 := by rw [← hh, Bd.state]; rfl
  have N0 := Fr.nil n0
  have pre0 : ∀ tG, Steps p.tables e below (s₁.setTop (mkF m 0 #[.val (.ref a1), .val (.int 1), .val (.int 4), .unset, .unset, .unset, .unset] [])) tG → Steps p.tables e below (s₁.setTop (entryFrame m #[(.ref a1), (.int 1), (.int 4)] 7)) tG := fun tG kG => castTop (ef_rmF_1_4 m a1 (1 : Int32) (4 : Int32)) kG
  obtain ⟨cl19, Ar19, q19, S19, M19, H19, J19⟩ := id V1
  have hin19 : ¬ ((1 : Int32) < 0 ∨ cl19.slots.size ≤ ((1 : Int32)).toNatClampNeg) := inb_of S19 ⟨by decide, by decide⟩
  have hat19 : cl19.slots[((1 : Int32)).toNatClampNeg]? = some (.long x1) := Has.at H19 hin19 rfl
  obtain ⟨cl20, Ar20, q20, S20, M20, H20, J20⟩ := id V1
  have hin20 : ¬ ((2 : Int32) < 0 ∨ cl20.slots.size ≤ ((2 : Int32)).toNatClampNeg) := inb_of S20 ⟨by decide, by decide⟩
  have hat20 : cl20.slots[((2 : Int32)).toNatClampNeg]? = some (.long x2) := Has.at H20 hin20 rfl
  obtain ⟨cl21, Ar21, q21, S21, M21, H21, J21⟩ := id V1
  have hin21 : ¬ ((3 : Int32) < 0 ∨ cl21.slots.size ≤ ((3 : Int32)).toNatClampNeg) := inb_of S21 ⟨by decide, by decide⟩
  have hat21 : cl21.slots[((3 : Int32)).toNatClampNeg]? = some (.long x3) := Has.at H21 hin21 rfl
  obtain ⟨cl22, Ar22, q22, S22, M22, H22, J22⟩ := id V1
  have hin22 : ¬ ((4 : Int32) < 0 ∨ cl22.slots.size ≤ ((4 : Int32)).toNatClampNeg) := inb_of S22 ⟨by decide, by decide⟩
  have hat22 : cl22.slots[((4 : Int32)).toNatClampNeg]? = some (.long x4) := Has.at H22 hin22 rfl
  obtain ⟨fs, hr, hrun, hended, hW, hsame⟩ := X0.leave (v := some (.long (own_xs ((own_xs ((own_xs (((((0 : Int64) + (x1 * (-7046029254386353131 : Int64))) + (x2 * (-7046029254386353129 : Int64))) + (x3 * (-7046029254386353127 : Int64))) + (x4 * (-7046029254386353125 : Int64)))) * (-49064778989728563 : Int64))) * (-4265267296055464877 : Int64))))) (fun h => by rw [Bd.returns] at h; cases h)
  refine ⟨_, _, pre0 _ ?_, hrun, hended, _, _, rfl, ?_, ⟨_, rfl⟩, hW, hsame.mono (by decide) (by decide)⟩
  · refine own_lconst0 X0.here hx (hb hby d_prog_59_method_3_code_0) ?_
    refine own_lstoreN X0.here hx (hb hby d_prog_59_method_3_code_1) (l' := #[.val (.ref a1), .val (.int 1), .val (.int 4), .val (.long 0), .second, .unset, .unset]) rfl ?_
    refine own_iconst X0.here hx (0 : Int32) (hb hby d_prog_59_method_3_code_2) rfl ?_
    refine own_istore X0.here hx (hb hby d_prog_59_method_3_code_3) (l' := #[.val (.ref a1), .val (.int 1), .val (.int 4), .val (.long 0), .second, .val (.int 0), .unset]) rfl ?_
    refine own_iload X0.here hx (hb hby d_prog_59_method_3_code_5) rfl ?_
    refine own_iloadN X0.here hx (hb hby d_prog_59_method_3_code_7) rfl ?_
    refine own_icmpNo X0.here hx (hb hby d_prog_59_method_3_code_8) (tlt (by decide : (0 : Int32) < (4 : Int32))).2.1 ?_
    refine own_lloadN X0.here hx (hb hby d_prog_59_method_3_code_11) rfl ?_
    refine own_aloadN X0.here hx (hb hby d_prog_59_method_3_code_12) rfl rfl ?_
    refine own_iloadN X0.here hx (hb hby d_prog_59_method_3_code_13) rfl ?_
    refine own_iload X0.here hx (hb hby d_prog_59_method_3_code_14) rfl ?_
    refine own_iadd X0.here hx (hb hby d_prog_59_method_3_code_16) ?_
    show Steps p.tables e below (s₁.setTop (mkF m 17 #[.val (.ref a1), .val (.int 1), .val (.int 4), .val (.long 0), .second, .val (.int 0), .unset] [(.int 1), (.ref a1), (.long 0)])) _
    refine X0.laload hx (j := (1 : Int32)) (v := (.long x1)) (by rw [e0]; exact Ar19.1) (State.isArrayOf_alike hZ.alike Ar19.2.1) Ar19.2.2 hin19 hat19 (g := (mkF m 17 #[.val (.ref a1), .val (.int 1), .val (.int 4), .val (.long 0), .second, .val (.int 0), .unset] [(.int 1), (.ref a1), (.long 0)])) rfl rfl (hb hby d_prog_59_method_3_code_17) _ ?_
    show Steps p.tables e below (s₁.setTop (mkF m 18 #[.val (.ref a1), .val (.int 1), .val (.int 4), .val (.long 0), .second, .val (.int 0), .unset] [(.long x1), (.long 0)])) _
    refine X0.ldc2Long hx hown (mvT hZ (hw _ (List.mem_of_getElem? (i := 7) rfl))) (g := (mkF m 18 #[.val (.ref a1), .val (.int 1), .val (.int 4), .val (.long 0), .second, .val (.int 0), .unset] [(.long x1), (.long 0)])) rfl (hb hby d_prog_59_method_3_code_18) _ ?_
    show Steps p.tables e below (s₁.setTop (mkF m 21 #[.val (.ref a1), .val (.int 1), .val (.int 4), .val (.long 0), .second, .val (.int 0), .unset] [(.long (-7046029254386353131)), (.long x1), (.long 0)])) _
    refine X0.ldc2Long hx hown (mvT hZ (hw _ (List.mem_of_getElem? (i := 8) rfl))) (g := (mkF m 21 #[.val (.ref a1), .val (.int 1), .val (.int 4), .val (.long 0), .second, .val (.int 0), .unset] [(.long (-7046029254386353131)), (.long x1), (.long 0)])) rfl (hb hby d_prog_59_method_3_code_21) _ ?_
    show Steps p.tables e below (s₁.setTop (mkF m 24 #[.val (.ref a1), .val (.int 1), .val (.int 4), .val (.long 0), .second, .val (.int 0), .unset] [(.long 2), (.long (-7046029254386353131)), (.long x1), (.long 0)])) _
    refine own_iload X0.here hx (hb hby d_prog_59_method_3_code_24) rfl ?_
    refine own_i2l X0.here hx (hb hby d_prog_59_method_3_code_26) ?_
    show Steps p.tables e below (s₁.setTop (mkF m 27 #[.val (.ref a1), .val (.int 1), .val (.int 4), .val (.long 0), .second, .val (.int 0), .unset] [(.long 0), (.long 2), (.long (-7046029254386353131)), (.long x1), (.long 0)])) _
    refine own_lmul X0.here hx (hb hby d_prog_59_method_3_code_27) ?_
    show Steps p.tables e below (s₁.setTop (mkF m 28 #[.val (.ref a1), .val (.int 1), .val (.int 4), .val (.long 0), .second, .val (.int 0), .unset] [(.long 0), (.long (-7046029254386353131)), (.long x1), (.long 0)])) _
    refine own_ladd X0.here hx (hb hby d_prog_59_method_3_code_28) ?_
    show Steps p.tables e below (s₁.setTop (mkF m 29 #[.val (.ref a1), .val (.int 1), .val (.int 4), .val (.long 0), .second, .val (.int 0), .unset] [(.long (-7046029254386353131)), (.long x1), (.long 0)])) _
    refine own_lmul X0.here hx (hb hby d_prog_59_method_3_code_29) ?_
    refine own_ladd X0.here hx (hb hby d_prog_59_method_3_code_30) ?_
    refine own_lstoreN X0.here hx (hb hby d_prog_59_method_3_code_31) (l' := #[.val (.ref a1), .val (.int 1), .val (.int 4), .val (.long ((0 : Int64) + (x1 * (-7046029254386353131 : Int64)))), .second, .val (.int 0), .unset]) rfl ?_
    refine own_iinc X0.here hx (1 : Int32) (hb hby d_prog_59_method_3_code_32) rfl rfl (l' := #[.val (.ref a1), .val (.int 1), .val (.int 4), .val (.long ((0 : Int64) + (x1 * (-7046029254386353131 : Int64)))), .second, .val (.int 1), .unset]) rfl ?_
    refine own_goto X0.here hx 35 5 rfl (hb hby d_prog_59_method_3_code_35) (by decide) (by decide) ?_
    refine own_iload X0.here hx (hb hby d_prog_59_method_3_code_5) rfl ?_
    refine own_iloadN X0.here hx (hb hby d_prog_59_method_3_code_7) rfl ?_
    refine own_icmpNo X0.here hx (hb hby d_prog_59_method_3_code_8) (tlt (by decide : (1 : Int32) < (4 : Int32))).2.1 ?_
    refine own_lloadN X0.here hx (hb hby d_prog_59_method_3_code_11) rfl ?_
    refine own_aloadN X0.here hx (hb hby d_prog_59_method_3_code_12) rfl rfl ?_
    refine own_iloadN X0.here hx (hb hby d_prog_59_method_3_code_13) rfl ?_
    refine own_iload X0.here hx (hb hby d_prog_59_method_3_code_14) rfl ?_
    refine own_iadd X0.here hx (hb hby d_prog_59_method_3_code_16) ?_
    show Steps p.tables e below (s₁.setTop (mkF m 17 #[.val (.ref a1), .val (.int 1), .val (.int 4), .val (.long ((0 : Int64) + (x1 * (-7046029254386353131 : Int64)))), .second, .val (.int 1), .unset] [(.int 2), (.ref a1), (.long ((0 : Int64) + (x1 * (-7046029254386353131 : Int64))))])) _
    refine X0.laload hx (j := (2 : Int32)) (v := (.long x2)) (by rw [e0]; exact Ar20.1) (State.isArrayOf_alike hZ.alike Ar20.2.1) Ar20.2.2 hin20 hat20 (g := (mkF m 17 #[.val (.ref a1), .val (.int 1), .val (.int 4), .val (.long ((0 : Int64) + (x1 * (-7046029254386353131 : Int64)))), .second, .val (.int 1), .unset] [(.int 2), (.ref a1), (.long ((0 : Int64) + (x1 * (-7046029254386353131 : Int64))))])) rfl rfl (hb hby d_prog_59_method_3_code_17) _ ?_
    show Steps p.tables e below (s₁.setTop (mkF m 18 #[.val (.ref a1), .val (.int 1), .val (.int 4), .val (.long ((0 : Int64) + (x1 * (-7046029254386353131 : Int64)))), .second, .val (.int 1), .unset] [(.long x2), (.long ((0 : Int64) + (x1 * (-7046029254386353131 : Int64))))])) _
    refine X0.ldc2Long hx hown (mvT hZ (hw _ (List.mem_of_getElem? (i := 7) rfl))) (g := (mkF m 18 #[.val (.ref a1), .val (.int 1), .val (.int 4), .val (.long ((0 : Int64) + (x1 * (-7046029254386353131 : Int64)))), .second, .val (.int 1), .unset] [(.long x2), (.long ((0 : Int64) + (x1 * (-7046029254386353131 : Int64))))])) rfl (hb hby d_prog_59_method_3_code_18) _ ?_
    show Steps p.tables e below (s₁.setTop (mkF m 21 #[.val (.ref a1), .val (.int 1), .val (.int 4), .val (.long ((0 : Int64) + (x1 * (-7046029254386353131 : Int64)))), .second, .val (.int 1), .unset] [(.long (-7046029254386353131)), (.long x2), (.long ((0 : Int64) + (x1 * (-7046029254386353131 : Int64))))])) _
    refine X0.ldc2Long hx hown (mvT hZ (hw _ (List.mem_of_getElem? (i := 8) rfl))) (g := (mkF m 21 #[.val (.ref a1), .val (.int 1), .val (.int 4), .val (.long ((0 : Int64) + (x1 * (-7046029254386353131 : Int64)))), .second, .val (.int 1), .unset] [(.long (-7046029254386353131)), (.long x2), (.long ((0 : Int64) + (x1 * (-7046029254386353131 : Int64))))])) rfl (hb hby d_prog_59_method_3_code_21) _ ?_
    show Steps p.tables e below (s₁.setTop (mkF m 24 #[.val (.ref a1), .val (.int 1), .val (.int 4), .val (.long ((0 : Int64) + (x1 * (-7046029254386353131 : Int64)))), .second, .val (.int 1), .unset] [(.long 2), (.long (-7046029254386353131)), (.long x2), (.long ((0 : Int64) + (x1 * (-7046029254386353131 : Int64))))])) _
    refine own_iload X0.here hx (hb hby d_prog_59_method_3_code_24) rfl ?_
    refine own_i2l X0.here hx (hb hby d_prog_59_method_3_code_26) ?_
    show Steps p.tables e below (s₁.setTop (mkF m 27 #[.val (.ref a1), .val (.int 1), .val (.int 4), .val (.long ((0 : Int64) + (x1 * (-7046029254386353131 : Int64)))), .second, .val (.int 1), .unset] [(.long 1), (.long 2), (.long (-7046029254386353131)), (.long x2), (.long ((0 : Int64) + (x1 * (-7046029254386353131 : Int64))))])) _
    refine own_lmul X0.here hx (hb hby d_prog_59_method_3_code_27) ?_
    show Steps p.tables e below (s₁.setTop (mkF m 28 #[.val (.ref a1), .val (.int 1), .val (.int 4), .val (.long ((0 : Int64) + (x1 * (-7046029254386353131 : Int64)))), .second, .val (.int 1), .unset] [(.long 2), (.long (-7046029254386353131)), (.long x2), (.long ((0 : Int64) + (x1 * (-7046029254386353131 : Int64))))])) _
    refine own_ladd X0.here hx (hb hby d_prog_59_method_3_code_28) ?_
    show Steps p.tables e below (s₁.setTop (mkF m 29 #[.val (.ref a1), .val (.int 1), .val (.int 4), .val (.long ((0 : Int64) + (x1 * (-7046029254386353131 : Int64)))), .second, .val (.int 1), .unset] [(.long (-7046029254386353129)), (.long x2), (.long ((0 : Int64) + (x1 * (-7046029254386353131 : Int64))))])) _
    refine own_lmul X0.here hx (hb hby d_prog_59_method_3_code_29) ?_
    refine own_ladd X0.here hx (hb hby d_prog_59_method_3_code_30) ?_
    refine own_lstoreN X0.here hx (hb hby d_prog_59_method_3_code_31) (l' := #[.val (.ref a1), .val (.int 1), .val (.int 4), .val (.long (((0 : Int64) + (x1 * (-7046029254386353131 : Int64))) + (x2 * (-7046029254386353129 : Int64)))), .second, .val (.int 1), .unset]) rfl ?_
    refine own_iinc X0.here hx (1 : Int32) (hb hby d_prog_59_method_3_code_32) rfl rfl (l' := #[.val (.ref a1), .val (.int 1), .val (.int 4), .val (.long (((0 : Int64) + (x1 * (-7046029254386353131 : Int64))) + (x2 * (-7046029254386353129 : Int64)))), .second, .val (.int 2), .unset]) rfl ?_
    refine own_goto X0.here hx 35 5 rfl (hb hby d_prog_59_method_3_code_35) (by decide) (by decide) ?_
    refine own_iload X0.here hx (hb hby d_prog_59_method_3_code_5) rfl ?_
    refine own_iloadN X0.here hx (hb hby d_prog_59_method_3_code_7) rfl ?_
    refine own_icmpNo X0.here hx (hb hby d_prog_59_method_3_code_8) (tlt (by decide : (2 : Int32) < (4 : Int32))).2.1 ?_
    refine own_lloadN X0.here hx (hb hby d_prog_59_method_3_code_11) rfl ?_
    refine own_aloadN X0.here hx (hb hby d_prog_59_method_3_code_12) rfl rfl ?_
    refine own_iloadN X0.here hx (hb hby d_prog_59_method_3_code_13) rfl ?_
    refine own_iload X0.here hx (hb hby d_prog_59_method_3_code_14) rfl ?_
    refine own_iadd X0.here hx (hb hby d_prog_59_method_3_code_16) ?_
    show Steps p.tables e below (s₁.setTop (mkF m 17 #[.val (.ref a1), .val (.int 1), .val (.int 4), .val (.long (((0 : Int64) + (x1 * (-7046029254386353131 : Int64))) + (x2 * (-7046029254386353129 : Int64)))), .second, .val (.int 2), .unset] [(.int 3), (.ref a1), (.long (((0 : Int64) + (x1 * (-7046029254386353131 : Int64))) + (x2 * (-7046029254386353129 : Int64))))])) _
    refine X0.laload hx (j := (3 : Int32)) (v := (.long x3)) (by rw [e0]; exact Ar21.1) (State.isArrayOf_alike hZ.alike Ar21.2.1) Ar21.2.2 hin21 hat21 (g := (mkF m 17 #[.val (.ref a1), .val (.int 1), .val (.int 4), .val (.long (((0 : Int64) + (x1 * (-7046029254386353131 : Int64))) + (x2 * (-7046029254386353129 : Int64)))), .second, .val (.int 2), .unset] [(.int 3), (.ref a1), (.long (((0 : Int64) + (x1 * (-7046029254386353131 : Int64))) + (x2 * (-7046029254386353129 : Int64))))])) rfl rfl (hb hby d_prog_59_method_3_code_17) _ ?_
    show Steps p.tables e below (s₁.setTop (mkF m 18 #[.val (.ref a1), .val (.int 1), .val (.int 4), .val (.long (((0 : Int64) + (x1 * (-7046029254386353131 : Int64))) + (x2 * (-7046029254386353129 : Int64)))), .second, .val (.int 2), .unset] [(.long x3), (.long (((0 : Int64) + (x1 * (-7046029254386353131 : Int64))) + (x2 * (-7046029254386353129 : Int64))))])) _
    refine X0.ldc2Long hx hown (mvT hZ (hw _ (List.mem_of_getElem? (i := 7) rfl))) (g := (mkF m 18 #[.val (.ref a1), .val (.int 1), .val (.int 4), .val (.long (((0 : Int64) + (x1 * (-7046029254386353131 : Int64))) + (x2 * (-7046029254386353129 : Int64)))), .second, .val (.int 2), .unset] [(.long x3), (.long (((0 : Int64) + (x1 * (-7046029254386353131 : Int64))) + (x2 * (-7046029254386353129 : Int64))))])) rfl (hb hby d_prog_59_method_3_code_18) _ ?_
    show Steps p.tables e below (s₁.setTop (mkF m 21 #[.val (.ref a1), .val (.int 1), .val (.int 4), .val (.long (((0 : Int64) + (x1 * (-7046029254386353131 : Int64))) + (x2 * (-7046029254386353129 : Int64)))), .second, .val (.int 2), .unset] [(.long (-7046029254386353131)), (.long x3), (.long (((0 : Int64) + (x1 * (-7046029254386353131 : Int64))) + (x2 * (-7046029254386353129 : Int64))))])) _
    refine X0.ldc2Long hx hown (mvT hZ (hw _ (List.mem_of_getElem? (i := 8) rfl))) (g := (mkF m 21 #[.val (.ref a1), .val (.int 1), .val (.int 4), .val (.long (((0 : Int64) + (x1 * (-7046029254386353131 : Int64))) + (x2 * (-7046029254386353129 : Int64)))), .second, .val (.int 2), .unset] [(.long (-7046029254386353131)), (.long x3), (.long (((0 : Int64) + (x1 * (-7046029254386353131 : Int64))) + (x2 * (-7046029254386353129 : Int64))))])) rfl (hb hby d_prog_59_method_3_code_21) _ ?_
    show Steps p.tables e below (s₁.setTop (mkF m 24 #[.val (.ref a1), .val (.int 1), .val (.int 4), .val (.long (((0 : Int64) + (x1 * (-7046029254386353131 : Int64))) + (x2 * (-7046029254386353129 : Int64)))), .second, .val (.int 2), .unset] [(.long 2), (.long (-7046029254386353131)), (.long x3), (.long (((0 : Int64) + (x1 * (-7046029254386353131 : Int64))) + (x2 * (-7046029254386353129 : Int64))))])) _
    refine own_iload X0.here hx (hb hby d_prog_59_method_3_code_24) rfl ?_
    refine own_i2l X0.here hx (hb hby d_prog_59_method_3_code_26) ?_
    show Steps p.tables e below (s₁.setTop (mkF m 27 #[.val (.ref a1), .val (.int 1), .val (.int 4), .val (.long (((0 : Int64) + (x1 * (-7046029254386353131 : Int64))) + (x2 * (-7046029254386353129 : Int64)))), .second, .val (.int 2), .unset] [(.long 2), (.long 2), (.long (-7046029254386353131)), (.long x3), (.long (((0 : Int64) + (x1 * (-7046029254386353131 : Int64))) + (x2 * (-7046029254386353129 : Int64))))])) _
    refine own_lmul X0.here hx (hb hby d_prog_59_method_3_code_27) ?_
    show Steps p.tables e below (s₁.setTop (mkF m 28 #[.val (.ref a1), .val (.int 1), .val (.int 4), .val (.long (((0 : Int64) + (x1 * (-7046029254386353131 : Int64))) + (x2 * (-7046029254386353129 : Int64)))), .second, .val (.int 2), .unset] [(.long 4), (.long (-7046029254386353131)), (.long x3), (.long (((0 : Int64) + (x1 * (-7046029254386353131 : Int64))) + (x2 * (-7046029254386353129 : Int64))))])) _
    refine own_ladd X0.here hx (hb hby d_prog_59_method_3_code_28) ?_
    show Steps p.tables e below (s₁.setTop (mkF m 29 #[.val (.ref a1), .val (.int 1), .val (.int 4), .val (.long (((0 : Int64) + (x1 * (-7046029254386353131 : Int64))) + (x2 * (-7046029254386353129 : Int64)))), .second, .val (.int 2), .unset] [(.long (-7046029254386353127)), (.long x3), (.long (((0 : Int64) + (x1 * (-7046029254386353131 : Int64))) + (x2 * (-7046029254386353129 : Int64))))])) _
    refine own_lmul X0.here hx (hb hby d_prog_59_method_3_code_29) ?_
    refine own_ladd X0.here hx (hb hby d_prog_59_method_3_code_30) ?_
    refine own_lstoreN X0.here hx (hb hby d_prog_59_method_3_code_31) (l' := #[.val (.ref a1), .val (.int 1), .val (.int 4), .val (.long ((((0 : Int64) + (x1 * (-7046029254386353131 : Int64))) + (x2 * (-7046029254386353129 : Int64))) + (x3 * (-7046029254386353127 : Int64)))), .second, .val (.int 2), .unset]) rfl ?_
    refine own_iinc X0.here hx (1 : Int32) (hb hby d_prog_59_method_3_code_32) rfl rfl (l' := #[.val (.ref a1), .val (.int 1), .val (.int 4), .val (.long ((((0 : Int64) + (x1 * (-7046029254386353131 : Int64))) + (x2 * (-7046029254386353129 : Int64))) + (x3 * (-7046029254386353127 : Int64)))), .second, .val (.int 3), .unset]) rfl ?_
    refine own_goto X0.here hx 35 5 rfl (hb hby d_prog_59_method_3_code_35) (by decide) (by decide) ?_
    refine own_iload X0.here hx (hb hby d_prog_59_method_3_code_5) rfl ?_
    refine own_iloadN X0.here hx (hb hby d_prog_59_method_3_code_7) rfl ?_
    refine own_icmpNo X0.here hx (hb hby d_prog_59_method_3_code_8) (tlt (by decide : (3 : Int32) < (4 : Int32))).2.1 ?_
    refine own_lloadN X0.here hx (hb hby d_prog_59_method_3_code_11) rfl ?_
    refine own_aloadN X0.here hx (hb hby d_prog_59_method_3_code_12) rfl rfl ?_
    refine own_iloadN X0.here hx (hb hby d_prog_59_method_3_code_13) rfl ?_
    refine own_iload X0.here hx (hb hby d_prog_59_method_3_code_14) rfl ?_
    refine own_iadd X0.here hx (hb hby d_prog_59_method_3_code_16) ?_
    show Steps p.tables e below (s₁.setTop (mkF m 17 #[.val (.ref a1), .val (.int 1), .val (.int 4), .val (.long ((((0 : Int64) + (x1 * (-7046029254386353131 : Int64))) + (x2 * (-7046029254386353129 : Int64))) + (x3 * (-7046029254386353127 : Int64)))), .second, .val (.int 3), .unset] [(.int 4), (.ref a1), (.long ((((0 : Int64) + (x1 * (-7046029254386353131 : Int64))) + (x2 * (-7046029254386353129 : Int64))) + (x3 * (-7046029254386353127 : Int64))))])) _
    refine X0.laload hx (j := (4 : Int32)) (v := (.long x4)) (by rw [e0]; exact Ar22.1) (State.isArrayOf_alike hZ.alike Ar22.2.1) Ar22.2.2 hin22 hat22 (g := (mkF m 17 #[.val (.ref a1), .val (.int 1), .val (.int 4), .val (.long ((((0 : Int64) + (x1 * (-7046029254386353131 : Int64))) + (x2 * (-7046029254386353129 : Int64))) + (x3 * (-7046029254386353127 : Int64)))), .second, .val (.int 3), .unset] [(.int 4), (.ref a1), (.long ((((0 : Int64) + (x1 * (-7046029254386353131 : Int64))) + (x2 * (-7046029254386353129 : Int64))) + (x3 * (-7046029254386353127 : Int64))))])) rfl rfl (hb hby d_prog_59_method_3_code_17) _ ?_
    show Steps p.tables e below (s₁.setTop (mkF m 18 #[.val (.ref a1), .val (.int 1), .val (.int 4), .val (.long ((((0 : Int64) + (x1 * (-7046029254386353131 : Int64))) + (x2 * (-7046029254386353129 : Int64))) + (x3 * (-7046029254386353127 : Int64)))), .second, .val (.int 3), .unset] [(.long x4), (.long ((((0 : Int64) + (x1 * (-7046029254386353131 : Int64))) + (x2 * (-7046029254386353129 : Int64))) + (x3 * (-7046029254386353127 : Int64))))])) _
    refine X0.ldc2Long hx hown (mvT hZ (hw _ (List.mem_of_getElem? (i := 7) rfl))) (g := (mkF m 18 #[.val (.ref a1), .val (.int 1), .val (.int 4), .val (.long ((((0 : Int64) + (x1 * (-7046029254386353131 : Int64))) + (x2 * (-7046029254386353129 : Int64))) + (x3 * (-7046029254386353127 : Int64)))), .second, .val (.int 3), .unset] [(.long x4), (.long ((((0 : Int64) + (x1 * (-7046029254386353131 : Int64))) + (x2 * (-7046029254386353129 : Int64))) + (x3 * (-7046029254386353127 : Int64))))])) rfl (hb hby d_prog_59_method_3_code_18) _ ?_
    show Steps p.tables e below (s₁.setTop (mkF m 21 #[.val (.ref a1), .val (.int 1), .val (.int 4), .val (.long ((((0 : Int64) + (x1 * (-7046029254386353131 : Int64))) + (x2 * (-7046029254386353129 : Int64))) + (x3 * (-7046029254386353127 : Int64)))), .second, .val (.int 3), .unset] [(.long (-7046029254386353131)), (.long x4), (.long ((((0 : Int64) + (x1 * (-7046029254386353131 : Int64))) + (x2 * (-7046029254386353129 : Int64))) + (x3 * (-7046029254386353127 : Int64))))])) _
    refine X0.ldc2Long hx hown (mvT hZ (hw _ (List.mem_of_getElem? (i := 8) rfl))) (g := (mkF m 21 #[.val (.ref a1), .val (.int 1), .val (.int 4), .val (.long ((((0 : Int64) + (x1 * (-7046029254386353131 : Int64))) + (x2 * (-7046029254386353129 : Int64))) + (x3 * (-7046029254386353127 : Int64)))), .second, .val (.int 3), .unset] [(.long (-7046029254386353131)), (.long x4), (.long ((((0 : Int64) + (x1 * (-7046029254386353131 : Int64))) + (x2 * (-7046029254386353129 : Int64))) + (x3 * (-7046029254386353127 : Int64))))])) rfl (hb hby d_prog_59_method_3_code_21) _ ?_
    show Steps p.tables e below (s₁.setTop (mkF m 24 #[.val (.ref a1), .val (.int 1), .val (.int 4), .val (.long ((((0 : Int64) + (x1 * (-7046029254386353131 : Int64))) + (x2 * (-7046029254386353129 : Int64))) + (x3 * (-7046029254386353127 : Int64)))), .second, .val (.int 3), .unset] [(.long 2), (.long (-7046029254386353131)), (.long x4), (.long ((((0 : Int64) + (x1 * (-7046029254386353131 : Int64))) + (x2 * (-7046029254386353129 : Int64))) + (x3 * (-7046029254386353127 : Int64))))])) _
    refine own_iload X0.here hx (hb hby d_prog_59_method_3_code_24) rfl ?_
    refine own_i2l X0.here hx (hb hby d_prog_59_method_3_code_26) ?_
    show Steps p.tables e below (s₁.setTop (mkF m 27 #[.val (.ref a1), .val (.int 1), .val (.int 4), .val (.long ((((0 : Int64) + (x1 * (-7046029254386353131 : Int64))) + (x2 * (-7046029254386353129 : Int64))) + (x3 * (-7046029254386353127 : Int64)))), .second, .val (.int 3), .unset] [(.long 3), (.long 2), (.long (-7046029254386353131)), (.long x4), (.long ((((0 : Int64) + (x1 * (-7046029254386353131 : Int64))) + (x2 * (-7046029254386353129 : Int64))) + (x3 * (-7046029254386353127 : Int64))))])) _
    refine own_lmul X0.here hx (hb hby d_prog_59_method_3_code_27) ?_
    show Steps p.tables e below (s₁.setTop (mkF m 28 #[.val (.ref a1), .val (.int 1), .val (.int 4), .val (.long ((((0 : Int64) + (x1 * (-7046029254386353131 : Int64))) + (x2 * (-7046029254386353129 : Int64))) + (x3 * (-7046029254386353127 : Int64)))), .second, .val (.int 3), .unset] [(.long 6), (.long (-7046029254386353131)), (.long x4), (.long ((((0 : Int64) + (x1 * (-7046029254386353131 : Int64))) + (x2 * (-7046029254386353129 : Int64))) + (x3 * (-7046029254386353127 : Int64))))])) _
    refine own_ladd X0.here hx (hb hby d_prog_59_method_3_code_28) ?_
    show Steps p.tables e below (s₁.setTop (mkF m 29 #[.val (.ref a1), .val (.int 1), .val (.int 4), .val (.long ((((0 : Int64) + (x1 * (-7046029254386353131 : Int64))) + (x2 * (-7046029254386353129 : Int64))) + (x3 * (-7046029254386353127 : Int64)))), .second, .val (.int 3), .unset] [(.long (-7046029254386353125)), (.long x4), (.long ((((0 : Int64) + (x1 * (-7046029254386353131 : Int64))) + (x2 * (-7046029254386353129 : Int64))) + (x3 * (-7046029254386353127 : Int64))))])) _
    refine own_lmul X0.here hx (hb hby d_prog_59_method_3_code_29) ?_
    refine own_ladd X0.here hx (hb hby d_prog_59_method_3_code_30) ?_
    refine own_lstoreN X0.here hx (hb hby d_prog_59_method_3_code_31) (l' := #[.val (.ref a1), .val (.int 1), .val (.int 4), .val (.long (((((0 : Int64) + (x1 * (-7046029254386353131 : Int64))) + (x2 * (-7046029254386353129 : Int64))) + (x3 * (-7046029254386353127 : Int64))) + (x4 * (-7046029254386353125 : Int64)))), .second, .val (.int 3), .unset]) rfl ?_
    refine own_iinc X0.here hx (1 : Int32) (hb hby d_prog_59_method_3_code_32) rfl rfl (l' := #[.val (.ref a1), .val (.int 1), .val (.int 4), .val (.long (((((0 : Int64) + (x1 * (-7046029254386353131 : Int64))) + (x2 * (-7046029254386353129 : Int64))) + (x3 * (-7046029254386353127 : Int64))) + (x4 * (-7046029254386353125 : Int64)))), .second, .val (.int 4), .unset]) rfl ?_
    refine own_goto X0.here hx 35 5 rfl (hb hby d_prog_59_method_3_code_35) (by decide) (by decide) ?_
    refine own_iload X0.here hx (hb hby d_prog_59_method_3_code_5) rfl ?_
    refine own_iloadN X0.here hx (hb hby d_prog_59_method_3_code_7) rfl ?_
    refine own_icmpYes X0.here hx 8 38 rfl (hb hby d_prog_59_method_3_code_8) (flt (by decide : ¬ ((4 : Int32) < (4 : Int32)))).2.1 (by decide) (by decide) ?_
    refine own_lloadN X0.here hx (hb hby d_prog_59_method_3_code_38) rfl ?_
    refine own_lloadN X0.here hx (hb hby d_prog_59_method_3_code_39) rfl ?_
    refine own_bipush X0.here hx (33 : Int32) (hb hby d_prog_59_method_3_code_40) rfl ?_
    refine own_lushr X0.here hx (hb hby d_prog_59_method_3_code_42) ?_
    refine own_lxor X0.here hx (hb hby d_prog_59_method_3_code_43) ?_
    show Steps p.tables e below (s₁.setTop (mkF m 44 #[.val (.ref a1), .val (.int 1), .val (.int 4), .val (.long (((((0 : Int64) + (x1 * (-7046029254386353131 : Int64))) + (x2 * (-7046029254386353129 : Int64))) + (x3 * (-7046029254386353127 : Int64))) + (x4 * (-7046029254386353125 : Int64)))), .second, .val (.int 4), .unset] [(.long (own_xs (((((0 : Int64) + (x1 * (-7046029254386353131 : Int64))) + (x2 * (-7046029254386353129 : Int64))) + (x3 * (-7046029254386353127 : Int64))) + (x4 * (-7046029254386353125 : Int64)))))])) _
    refine X0.ldc2Long hx hown (mvT hZ (hw _ (List.mem_of_getElem? (i := 9) rfl))) (g := (mkF m 44 #[.val (.ref a1), .val (.int 1), .val (.int 4), .val (.long (((((0 : Int64) + (x1 * (-7046029254386353131 : Int64))) + (x2 * (-7046029254386353129 : Int64))) + (x3 * (-7046029254386353127 : Int64))) + (x4 * (-7046029254386353125 : Int64)))), .second, .val (.int 4), .unset] [(.long (own_xs (((((0 : Int64) + (x1 * (-7046029254386353131 : Int64))) + (x2 * (-7046029254386353129 : Int64))) + (x3 * (-7046029254386353127 : Int64))) + (x4 * (-7046029254386353125 : Int64)))))])) rfl (hb hby d_prog_59_method_3_code_44) _ ?_
    show Steps p.tables e below (s₁.setTop (mkF m 47 #[.val (.ref a1), .val (.int 1), .val (.int 4), .val (.long (((((0 : Int64) + (x1 * (-7046029254386353131 : Int64))) + (x2 * (-7046029254386353129 : Int64))) + (x3 * (-7046029254386353127 : Int64))) + (x4 * (-7046029254386353125 : Int64)))), .second, .val (.int 4), .unset] [(.long (-49064778989728563)), (.long (own_xs (((((0 : Int64) + (x1 * (-7046029254386353131 : Int64))) + (x2 * (-7046029254386353129 : Int64))) + (x3 * (-7046029254386353127 : Int64))) + (x4 * (-7046029254386353125 : Int64)))))])) _
    refine own_lmul X0.here hx (hb hby d_prog_59_method_3_code_47) ?_
    refine own_lstore X0.here hx (hb hby d_prog_59_method_3_code_48) (l' := #[.val (.ref a1), .val (.int 1), .val (.int 4), .val (.long (((((0 : Int64) + (x1 * (-7046029254386353131 : Int64))) + (x2 * (-7046029254386353129 : Int64))) + (x3 * (-7046029254386353127 : Int64))) + (x4 * (-7046029254386353125 : Int64)))), .second, .val (.long ((own_xs (((((0 : Int64) + (x1 * (-7046029254386353131 : Int64))) + (x2 * (-7046029254386353129 : Int64))) + (x3 * (-7046029254386353127 : Int64))) + (x4 * (-7046029254386353125 : Int64)))) * (-49064778989728563 : Int64))), .second]) rfl ?_
    refine own_lload X0.here hx (hb hby d_prog_59_method_3_code_50) rfl ?_
    refine own_lload X0.here hx (hb hby d_prog_59_method_3_code_52) rfl ?_
    refine own_bipush X0.here hx (33 : Int32) (hb hby d_prog_59_method_3_code_54) rfl ?_
    refine own_lushr X0.here hx (hb hby d_prog_59_method_3_code_56) ?_
    refine own_lxor X0.here hx (hb hby d_prog_59_method_3_code_57) ?_
    show Steps p.tables e below (s₁.setTop (mkF m 58 #[.val (.ref a1), .val (.int 1), .val (.int 4), .val (.long (((((0 : Int64) + (x1 * (-7046029254386353131 : Int64))) + (x2 * (-7046029254386353129 : Int64))) + (x3 * (-7046029254386353127 : Int64))) + (x4 * (-7046029254386353125 : Int64)))), .second, .val (.long ((own_xs (((((0 : Int64) + (x1 * (-7046029254386353131 : Int64))) + (x2 * (-7046029254386353129 : Int64))) + (x3 * (-7046029254386353127 : Int64))) + (x4 * (-7046029254386353125 : Int64)))) * (-49064778989728563 : Int64))), .second] [(.long (own_xs ((own_xs (((((0 : Int64) + (x1 * (-7046029254386353131 : Int64))) + (x2 * (-7046029254386353129 : Int64))) + (x3 * (-7046029254386353127 : Int64))) + (x4 * (-7046029254386353125 : Int64)))) * (-49064778989728563 : Int64))))])) _
    refine X0.ldc2Long hx hown (mvT hZ (hw _ (List.mem_of_getElem? (i := 10) rfl))) (g := (mkF m 58 #[.val (.ref a1), .val (.int 1), .val (.int 4), .val (.long (((((0 : Int64) + (x1 * (-7046029254386353131 : Int64))) + (x2 * (-7046029254386353129 : Int64))) + (x3 * (-7046029254386353127 : Int64))) + (x4 * (-7046029254386353125 : Int64)))), .second, .val (.long ((own_xs (((((0 : Int64) + (x1 * (-7046029254386353131 : Int64))) + (x2 * (-7046029254386353129 : Int64))) + (x3 * (-7046029254386353127 : Int64))) + (x4 * (-7046029254386353125 : Int64)))) * (-49064778989728563 : Int64))), .second] [(.long (own_xs ((own_xs (((((0 : Int64) + (x1 * (-7046029254386353131 : Int64))) + (x2 * (-7046029254386353129 : Int64))) + (x3 * (-7046029254386353127 : Int64))) + (x4 * (-7046029254386353125 : Int64)))) * (-49064778989728563 : Int64))))])) rfl (hb hby d_prog_59_method_3_code_58) _ ?_
    show Steps p.tables e below (s₁.setTop (mkF m 61 #[.val (.ref a1), .val (.int 1), .val (.int 4), .val (.long (((((0 : Int64) + (x1 * (-7046029254386353131 : Int64))) + (x2 * (-7046029254386353129 : Int64))) + (x3 * (-7046029254386353127 : Int64))) + (x4 * (-7046029254386353125 : Int64)))), .second, .val (.long ((own_xs (((((0 : Int64) + (x1 * (-7046029254386353131 : Int64))) + (x2 * (-7046029254386353129 : Int64))) + (x3 * (-7046029254386353127 : Int64))) + (x4 * (-7046029254386353125 : Int64)))) * (-49064778989728563 : Int64))), .second] [(.long (-4265267296055464877)), (.long (own_xs ((own_xs (((((0 : Int64) + (x1 * (-7046029254386353131 : Int64))) + (x2 * (-7046029254386353129 : Int64))) + (x3 * (-7046029254386353127 : Int64))) + (x4 * (-7046029254386353125 : Int64)))) * (-49064778989728563 : Int64))))])) _
    refine own_lmul X0.here hx (hb hby d_prog_59_method_3_code_61) ?_
    refine own_lstore X0.here hx (hb hby d_prog_59_method_3_code_62) (l' := #[.val (.ref a1), .val (.int 1), .val (.int 4), .val (.long (((((0 : Int64) + (x1 * (-7046029254386353131 : Int64))) + (x2 * (-7046029254386353129 : Int64))) + (x3 * (-7046029254386353127 : Int64))) + (x4 * (-7046029254386353125 : Int64)))), .second, .val (.long ((own_xs ((own_xs (((((0 : Int64) + (x1 * (-7046029254386353131 : Int64))) + (x2 * (-7046029254386353129 : Int64))) + (x3 * (-7046029254386353127 : Int64))) + (x4 * (-7046029254386353125 : Int64)))) * (-49064778989728563 : Int64))) * (-4265267296055464877 : Int64))), .second]) rfl ?_
    refine own_lload X0.here hx (hb hby d_prog_59_method_3_code_64) rfl ?_
    refine own_lload X0.here hx (hb hby d_prog_59_method_3_code_66) rfl ?_
    refine own_bipush X0.here hx (33 : Int32) (hb hby d_prog_59_method_3_code_68) rfl ?_
    refine own_lushr X0.here hx (hb hby d_prog_59_method_3_code_70) ?_
    refine own_lxor X0.here hx (hb hby d_prog_59_method_3_code_71) ?_
    show Steps p.tables e below (s₁.setTop (mkF m 72 #[.val (.ref a1), .val (.int 1), .val (.int 4), .val (.long (((((0 : Int64) + (x1 * (-7046029254386353131 : Int64))) + (x2 * (-7046029254386353129 : Int64))) + (x3 * (-7046029254386353127 : Int64))) + (x4 * (-7046029254386353125 : Int64)))), .second, .val (.long ((own_xs ((own_xs (((((0 : Int64) + (x1 * (-7046029254386353131 : Int64))) + (x2 * (-7046029254386353129 : Int64))) + (x3 * (-7046029254386353127 : Int64))) + (x4 * (-7046029254386353125 : Int64)))) * (-49064778989728563 : Int64))) * (-4265267296055464877 : Int64))), .second] [(.long (own_xs ((own_xs ((own_xs (((((0 : Int64) + (x1 * (-7046029254386353131 : Int64))) + (x2 * (-7046029254386353129 : Int64))) + (x3 * (-7046029254386353127 : Int64))) + (x4 * (-7046029254386353125 : Int64)))) * (-49064778989728563 : Int64))) * (-4265267296055464877 : Int64))))])) _
    exact X0.lreturnOut hx Bd.returns (hb hby d_prog_59_method_3_code_72) hr
  · show QF_1_4 Z a1 k1 x0 x1 x2 x3 x4 x5 h0 n0 _ s₁.heap _
    rw [e0]
    exact ⟨rfl, N0, rfl⟩
theorem ef_rm0 (m : MethodId) (x0 : Int64) (x1 : Int64) (x2 : Int64) (x3 : Int64) (x4 : Int64) (x5 : Int32) : entryFrame m #[(.long x0), (.long x1), (.long x2), (.long x3), (.long x4), (.int x5)] maxLocals = mkF m 0 #[.val (.long x0), .second, .val (.long x1), .second, .val (.long x2), .second, .val (.long x3), .second, .val (.long x4), .second, .val (.int x5), .unset, .unset, .unset, .unset, .unset, .unset, .unset, .unset, .unset] [] := by first | (simp [entryFrame, mkF, argsToLocals, Value.category, maxLocals]; done) | rfl
def Q0 (Z : State) (q0 : Int64) (q1 : Int64) (q2 : Int64) (q3 : Int64) (q4 : Int64) (p5 : Int32) (h0 : Heap) (n0 : Nat) (v : Option Value) (h : Heap) (L : List Loc) : Prop := v = some (.int (1 : Int32)) ∧ Fr n0 L
theorem pd_285bJII29J : parseMethodDescriptor "([JII)J" = some ⟨[(.array .long), .int, .int], some .long⟩ := by decide +kernel
set_option maxRecDepth 65536 in
set_option maxHeartbeats 40000000 in
theorem rm0 (l : Launch) (Z : State) (a0 : Array Value) (hw : ∀ d ∈ tables_1, d.before a0 Z = true) (ws : List Jvm.Cond) (q0 : Int64) (q1 : Int64) (q2 : Int64) (q3 : Int64) (q4 : Int64) (p5 : Int32) (h0 : Heap) (n0 : Nat) (Z0 : n0 ≤ h0.size) :
    MetFree l x (head1 (Jvm.Cond.code x code maxLocals ret :: ws) room_1) (fun a U => a = #[(.long q0), (.long q1), (.long q2), (.long q3), (.long q4), (.int p5)] ∧ Z.Warmed39 U.vm ∧ U.heap = h0) (fun _ _ _ _ _ => True) (fun _ U o U' => ∃ v L, o = .returned v ∧ Q0 Z q0 q1 q2 q3 q4 p5 h0 n0 v U'.heap L ∧ FrameEnd U o U' L 16 128) := by
  refine MetFree.of_bodySF (plainFor_of_name pn_com_example_naqsh_naqsh_mining_TransactionSetsFingerprintPinLaw) hisR ?_
  intro p e s m args below meth c s₁ Bd hml0 hP hK
  obtain ⟨rfl, hZ, hh⟩ := hP
  have hx := Bd.exec
  have hby := Bd.bytes
  have hml : c.maxLocals = 20 := hml0
  have hown : s.vm.findClass "com/example/naqsh/naqsh/mining/TransactionSetsFingerprintPinLaw" = some m.cls := findClass_of_methodNamed Bd.named
  have hnm := (name_of_methodNamed Bd.named Bd.method).1
  have X0 : Stand p l e room_1 s m #[(.long q0), (.long q1), (.long q2), (.long q3), (.long q4), (.int p5)] below meth c s₁ [] 0 0 := Stand.of_body Bd
  have e0 : s₁.heap = h0 := by rw [← hh, Bd.state]; rfl
  have N0 := Fr.nil n0
  have pre0 : ∀ tG, Steps p.tables e below (s₁.setTop (mkF m 0 #[.val (.long q0), .second, .val (.long q1), .second, .val (.long q2), .second, .val (.long q3), .second, .val (.long q4), .second, .val (.int p5), .unset, .unset, .unset, .unset, .unset, .unset, .unset, .unset, .unset] [])) tG → Steps p.tables e below (s₁.setTop (entryFrame m #[(.long q0), (.long q1), (.long q2), (.long q3), (.long q4), (.int p5)] maxLocals)) tG := fun tG kG => castTop (ef_rm0 m q0 q1 q2 q3 q4 p5) kG
  obtain ⟨T23, h23, k23, X23, e23, E23, A23, st23⟩ := newP X0 hx hZ (hw _ (List.mem_of_getElem? (i := 0) rfl)) e0 (g := (mkF m 20 #[.val (.long q0), .second, .val (.long q1), .second, .val (.long q2), .second, .val (.long q3), .second, .val (.long q4), .second, .val (.int p5), .val (.int (own_rem (p5 &&& (7 : Int32)) (5 : Int32))), .val (.int (((p5.toUInt32 >>> ((8 : Int32) &&& 31).toUInt32).toInt32) &&& (1 : Int32))), .unset, .unset, .unset, .unset, .unset, .unset, .unset] [(.int 6)])) rfl (hb hby at_20) rfl (by decide) (cap := 6) (by decide) (by decide) (by decide) (by decide)
  obtain ⟨b23, g23⟩ : ∃ z, z = h0.size := ⟨_, rfl⟩
  rw [← g23] at A23 st23
  have E23' := E23
  have gg23 : n0 ≤ b23 := Nat.le_trans Z0 (Nat.le_of_eq g23.symm)
  have Z23 : n0 ≤ h23.size := Nat.le_trans Z0 E23.1
  have V23 : Arv Z h23 b23 k23 .long (6 : Int32) [(.long 0), (.long 0), (.long 0), (.long 0), (.long 0), (.long 0)] (.long 0) := (Arv.new A23 (by decide)).pad (pad_rep [] (.long 0) 6)
  obtain ⟨cl24, Ar24, q24, S24, M24, H24, J24⟩ := id V23
  have hin24 : ¬ ((0 : Int32) < 0 ∨ cl24.slots.size ≤ ((0 : Int32)).toNatClampNeg) := inb_of S24 ⟨by decide, by decide⟩
  obtain ⟨T25, h25, X25, e25, W25, st25⟩ := stJ X23 hx hZ e23 Ar24 (j := (0 : Int32)) hin24 (g := (mkF m 29 #[.val (.long q0), .second, .val (.long q1), .second, .val (.long q2), .second, .val (.long q3), .second, .val (.long q4), .second, .val (.int p5), .val (.int (own_rem (p5 &&& (7 : Int32)) (5 : Int32))), .val (.int (((p5.toUInt32 >>> ((8 : Int32) &&& 31).toUInt32).toInt32) &&& (1 : Int32))), .val (.ref b23), .unset, .unset, .unset, .unset, .unset, .unset] [(.long q4), (.int 0), (.ref b23)])) rfl rfl (hb hby at_29)
  have V25 : Arv Z h25 b23 k23 .long (6 : Int32) [(.long q4), (.long 0), (.long 0), (.long 0), (.long 0), (.long 0)] (.long 0) := Arv.set Ar24 q24 S24 M24 H24 J24 rfl W25 0 rfl (Nat.le_of_ble_eq_true rfl)
  have N25 := Fr.snoc X25 N0 gg23
  have Z25 : n0 ≤ h25.size := Nat.le_trans Z23 (Keep.of_wr W25).1
  obtain ⟨cl27, Ar27, q27, S27, M27, H27, J27⟩ := id V25
  have hin27 : ¬ ((1 : Int32) < 0 ∨ cl27.slots.size ≤ ((1 : Int32)).toNatClampNeg) := inb_of S27 ⟨by decide, by decide⟩
  obtain ⟨T28, h28, X28, e28, W28, st28⟩ := stJ X25 hx hZ e25 Ar27 (j := (1 : Int32)) hin27 (g := (mkF m 35 #[.val (.long q0), .second, .val (.long q1), .second, .val (.long q2), .second, .val (.long q3), .second, .val (.long q4), .second, .val (.int p5), .val (.int (own_rem (p5 &&& (7 : Int32)) (5 : Int32))), .val (.int (((p5.toUInt32 >>> ((8 : Int32) &&& 31).toUInt32).toInt32) &&& (1 : Int32))), .val (.ref b23), .unset, .unset, .unset, .unset, .unset, .unset] [(.long q4), (.int 1), (.ref b23)])) rfl rfl (hb hby at_35)
  have V28 : Arv Z h28 b23 k23 .long (6 : Int32) [(.long q4), (.long q4), (.long 0), (.long 0), (.long 0), (.long 0)] (.long 0) := Arv.set Ar27 q27 S27 M27 H27 J27 rfl W28 1 rfl (Nat.le_of_ble_eq_true rfl)
  have N28 := Fr.snoc X28 N25 gg23
  have Z28 : n0 ≤ h28.size := Nat.le_trans Z25 (Keep.of_wr W28).1
  obtain ⟨cl30, Ar30, q30, S30, M30, H30, J30⟩ := id V28
  have hin30 : ¬ ((2 : Int32) < 0 ∨ cl30.slots.size ≤ ((2 : Int32)).toNatClampNeg) := inb_of S30 ⟨by decide, by decide⟩
  obtain ⟨T31, h31, X31, e31, W31, st31⟩ := stJ X28 hx hZ e28 Ar30 (j := (2 : Int32)) hin30 (g := (mkF m 41 #[.val (.long q0), .second, .val (.long q1), .second, .val (.long q2), .second, .val (.long q3), .second, .val (.long q4), .second, .val (.int p5), .val (.int (own_rem (p5 &&& (7 : Int32)) (5 : Int32))), .val (.int (((p5.toUInt32 >>> ((8 : Int32) &&& 31).toUInt32).toInt32) &&& (1 : Int32))), .val (.ref b23), .unset, .unset, .unset, .unset, .unset, .unset] [(.long q4), (.int 2), (.ref b23)])) rfl rfl (hb hby at_41)
  have V31 : Arv Z h31 b23 k23 .long (6 : Int32) [(.long q4), (.long q4), (.long q4), (.long 0), (.long 0), (.long 0)] (.long 0) := Arv.set Ar30 q30 S30 M30 H30 J30 rfl W31 2 rfl (Nat.le_of_ble_eq_true rfl)
  have N31 := Fr.snoc X31 N28 gg23
  have Z31 : n0 ≤ h31.size := Nat.le_trans Z28 (Keep.of_wr W31).1
  obtain ⟨cl33, Ar33, q33, S33, M33, H33, J33⟩ := id V31
  have hin33 : ¬ ((3 : Int32) < 0 ∨ cl33.slots.size ≤ ((3 : Int32)).toNatClampNeg) := inb_of S33 ⟨by decide, by decide⟩
  obtain ⟨T34, h34, X34, e34, W34, st34⟩ := stJ X31 hx hZ e31 Ar33 (j := (3 : Int32)) hin33 (g := (mkF m 47 #[.val (.long q0), .second, .val (.long q1), .second, .val (.long q2), .second, .val (.long q3), .second, .val (.long q4), .second, .val (.int p5), .val (.int (own_rem (p5 &&& (7 : Int32)) (5 : Int32))), .val (.int (((p5.toUInt32 >>> ((8 : Int32) &&& 31).toUInt32).toInt32) &&& (1 : Int32))), .val (.ref b23), .unset, .unset, .unset, .unset, .unset, .unset] [(.long q4), (.int 3), (.ref b23)])) rfl rfl (hb hby at_47)
  have V34 : Arv Z h34 b23 k23 .long (6 : Int32) [(.long q4), (.long q4), (.long q4), (.long q4), (.long 0), (.long 0)] (.long 0) := Arv.set Ar33 q33 S33 M33 H33 J33 rfl W34 3 rfl (Nat.le_of_ble_eq_true rfl)
  have N34 := Fr.snoc X34 N31 gg23
  have Z34 : n0 ≤ h34.size := Nat.le_trans Z31 (Keep.of_wr W34).1
  obtain ⟨cl36, Ar36, q36, S36, M36, H36, J36⟩ := id V34
  have hin36 : ¬ ((4 : Int32) < 0 ∨ cl36.slots.size ≤ ((4 : Int32)).toNatClampNeg) := inb_of S36 ⟨by decide, by decide⟩
  obtain ⟨T37, h37, X37, e37, W37, st37⟩ := stJ X34 hx hZ e34 Ar36 (j := (4 : Int32)) hin36 (g := (mkF m 53 #[.val (.long q0), .second, .val (.long q1), .second, .val (.long q2), .second, .val (.long q3), .second, .val (.long q4), .second, .val (.int p5), .val (.int (own_rem (p5 &&& (7 : Int32)) (5 : Int32))), .val (.int (((p5.toUInt32 >>> ((8 : Int32) &&& 31).toUInt32).toInt32) &&& (1 : Int32))), .val (.ref b23), .unset, .unset, .unset, .unset, .unset, .unset] [(.long q4), (.int 4), (.ref b23)])) rfl rfl (hb hby at_53)
  have V37 : Arv Z h37 b23 k23 .long (6 : Int32) [(.long q4), (.long q4), (.long q4), (.long q4), (.long q4), (.long 0)] (.long 0) := Arv.set Ar36 q36 S36 M36 H36 J36 rfl W37 4 rfl (Nat.le_of_ble_eq_true rfl)
  have N37 := Fr.snoc X37 N34 gg23
  have Z37 : n0 ≤ h37.size := Nat.le_trans Z34 (Keep.of_wr W37).1
  obtain ⟨cl39, Ar39, q39, S39, M39, H39, J39⟩ := id V37
  have hin39 : ¬ ((5 : Int32) < 0 ∨ cl39.slots.size ≤ ((5 : Int32)).toNatClampNeg) := inb_of S39 ⟨by decide, by decide⟩
  obtain ⟨T40, h40, X40, e40, W40, st40⟩ := stJ X37 hx hZ e37 Ar39 (j := (5 : Int32)) hin39 (g := (mkF m 59 #[.val (.long q0), .second, .val (.long q1), .second, .val (.long q2), .second, .val (.long q3), .second, .val (.long q4), .second, .val (.int p5), .val (.int (own_rem (p5 &&& (7 : Int32)) (5 : Int32))), .val (.int (((p5.toUInt32 >>> ((8 : Int32) &&& 31).toUInt32).toInt32) &&& (1 : Int32))), .val (.ref b23), .unset, .unset, .unset, .unset, .unset, .unset] [(.long q4), (.int 5), (.ref b23)])) rfl rfl (hb hby at_59)
  have V40 : Arv Z h40 b23 k23 .long (6 : Int32) [(.long q4), (.long q4), (.long q4), (.long q4), (.long q4), (.long q4)] (.long 0) := Arv.set Ar39 q39 S39 M39 H39 J39 rfl W40 5 rfl (Nat.le_of_ble_eq_true rfl)
  have N40 := Fr.snoc X40 N37 gg23
  have Z40 : n0 ≤ h40.size := Nat.le_trans Z37 (Keep.of_wr W40).1
  have G42 : ∀ tG, Steps p.tables e below (T40.setTop (mkF m 60 #[.val (.long q0), .second, .val (.long q1), .second, .val (.long q2), .second, .val (.long q3), .second, .val (.long q4), .second, .val (.int p5), .val (.int (own_rem (p5 &&& (7 : Int32)) (5 : Int32))), .val (.int (((p5.toUInt32 >>> ((8 : Int32) &&& 31).toUInt32).toInt32) &&& (1 : Int32))), .val (.ref b23), .unset, .unset, .unset, .unset, .unset, .unset] [])) tG → Steps p.tables e below (s₁.setTop (mkF m 0 #[.val (.long q0), .second, .val (.long q1), .second, .val (.long q2), .second, .val (.long q3), .second, .val (.long q4), .second, .val (.int p5), .unset, .unset, .unset, .unset, .unset, .unset, .unset, .unset, .unset] [])) tG := by
    intro tG kG
    refine own_iload X0.here hx (hb hby at_0) rfl ?_
    refine own_bipush X0.here hx (7 : Int32) (hb hby at_2) rfl ?_
    refine own_iand X0.here hx (hb hby at_4) ?_
    refine own_iconst X0.here hx (5 : Int32) (hb hby at_5) rfl ?_
    refine own_irem X0.here hx (hb hby at_6) (by decide) ?_
    refine own_istore X0.here hx (hb hby at_7) (l' := #[.val (.long q0), .second, .val (.long q1), .second, .val (.long q2), .second, .val (.long q3), .second, .val (.long q4), .second, .val (.int p5), .val (.int (own_rem (p5 &&& (7 : Int32)) (5 : Int32))), .unset, .unset, .unset, .unset, .unset, .unset, .unset, .unset]) rfl ?_
    refine own_iload X0.here hx (hb hby at_9) rfl ?_
    refine own_bipush X0.here hx (8 : Int32) (hb hby at_11) rfl ?_
    refine own_iushr X0.here hx (hb hby at_13) ?_
    refine own_iconst X0.here hx (1 : Int32) (hb hby at_14) rfl ?_
    refine own_iand X0.here hx (hb hby at_15) ?_
    refine own_istore X0.here hx (hb hby at_16) (l' := #[.val (.long q0), .second, .val (.long q1), .second, .val (.long q2), .second, .val (.long q3), .second, .val (.long q4), .second, .val (.int p5), .val (.int (own_rem (p5 &&& (7 : Int32)) (5 : Int32))), .val (.int (((p5.toUInt32 >>> ((8 : Int32) &&& 31).toUInt32).toInt32) &&& (1 : Int32))), .unset, .unset, .unset, .unset, .unset, .unset, .unset]) rfl ?_
    refine own_bipush X0.here hx (6 : Int32) (hb hby at_18) rfl ?_
    refine st23 _ ?_
    show Steps p.tables e below (T23.setTop (mkF m 22 #[.val (.long q0), .second, .val (.long q1), .second, .val (.long q2), .second, .val (.long q3), .second, .val (.long q4), .second, .val (.int p5), .val (.int (own_rem (p5 &&& (7 : Int32)) (5 : Int32))), .val (.int (((p5.toUInt32 >>> ((8 : Int32) &&& 31).toUInt32).toInt32) &&& (1 : Int32))), .unset, .unset, .unset, .unset, .unset, .unset, .unset] [(.ref b23)])) _
    refine own_astore X23.here hx (hb hby at_22) rfl (l' := #[.val (.long q0), .second, .val (.long q1), .second, .val (.long q2), .second, .val (.long q3), .second, .val (.long q4), .second, .val (.int p5), .val (.int (own_rem (p5 &&& (7 : Int32)) (5 : Int32))), .val (.int (((p5.toUInt32 >>> ((8 : Int32) &&& 31).toUInt32).toInt32) &&& (1 : Int32))), .val (.ref b23), .unset, .unset, .unset, .unset, .unset, .unset]) rfl ?_
    refine own_aload X23.here hx (hb hby at_24) rfl rfl ?_
    refine own_iconst X23.here hx (0 : Int32) (hb hby at_26) rfl ?_
    refine own_lload X23.here hx (hb hby at_27) rfl ?_
    refine st25 _ ?_
    show Steps p.tables e below (T25.setTop (mkF m 30 #[.val (.long q0), .second, .val (.long q1), .second, .val (.long q2), .second, .val (.long q3), .second, .val (.long q4), .second, .val (.int p5), .val (.int (own_rem (p5 &&& (7 : Int32)) (5 : Int32))), .val (.int (((p5.toUInt32 >>> ((8 : Int32) &&& 31).toUInt32).toInt32) &&& (1 : Int32))), .val (.ref b23), .unset, .unset, .unset, .unset, .unset, .unset] [])) _
    refine own_aload X25.here hx (hb hby at_30) rfl rfl ?_
    refine own_iconst X25.here hx (1 : Int32) (hb hby at_32) rfl ?_
    refine own_lload X25.here hx (hb hby at_33) rfl ?_
    refine st28 _ ?_
    show Steps p.tables e below (T28.setTop (mkF m 36 #[.val (.long q0), .second, .val (.long q1), .second, .val (.long q2), .second, .val (.long q3), .second, .val (.long q4), .second, .val (.int p5), .val (.int (own_rem (p5 &&& (7 : Int32)) (5 : Int32))), .val (.int (((p5.toUInt32 >>> ((8 : Int32) &&& 31).toUInt32).toInt32) &&& (1 : Int32))), .val (.ref b23), .unset, .unset, .unset, .unset, .unset, .unset] [])) _
    refine own_aload X28.here hx (hb hby at_36) rfl rfl ?_
    refine own_iconst X28.here hx (2 : Int32) (hb hby at_38) rfl ?_
    refine own_lload X28.here hx (hb hby at_39) rfl ?_
    refine st31 _ ?_
    show Steps p.tables e below (T31.setTop (mkF m 42 #[.val (.long q0), .second, .val (.long q1), .second, .val (.long q2), .second, .val (.long q3), .second, .val (.long q4), .second, .val (.int p5), .val (.int (own_rem (p5 &&& (7 : Int32)) (5 : Int32))), .val (.int (((p5.toUInt32 >>> ((8 : Int32) &&& 31).toUInt32).toInt32) &&& (1 : Int32))), .val (.ref b23), .unset, .unset, .unset, .unset, .unset, .unset] [])) _
    refine own_aload X31.here hx (hb hby at_42) rfl rfl ?_
    refine own_iconst X31.here hx (3 : Int32) (hb hby at_44) rfl ?_
    refine own_lload X31.here hx (hb hby at_45) rfl ?_
    refine st34 _ ?_
    show Steps p.tables e below (T34.setTop (mkF m 48 #[.val (.long q0), .second, .val (.long q1), .second, .val (.long q2), .second, .val (.long q3), .second, .val (.long q4), .second, .val (.int p5), .val (.int (own_rem (p5 &&& (7 : Int32)) (5 : Int32))), .val (.int (((p5.toUInt32 >>> ((8 : Int32) &&& 31).toUInt32).toInt32) &&& (1 : Int32))), .val (.ref b23), .unset, .unset, .unset, .unset, .unset, .unset] [])) _
    refine own_aload X34.here hx (hb hby at_48) rfl rfl ?_
    refine own_iconst X34.here hx (4 : Int32) (hb hby at_50) rfl ?_
    refine own_lload X34.here hx (hb hby at_51) rfl ?_
    refine st37 _ ?_
    show Steps p.tables e below (T37.setTop (mkF m 54 #[.val (.long q0), .second, .val (.long q1), .second, .val (.long q2), .second, .val (.long q3), .second, .val (.long q4), .second, .val (.int p5), .val (.int (own_rem (p5 &&& (7 : Int32)) (5 : Int32))), .val (.int (((p5.toUInt32 >>> ((8 : Int32) &&& 31).toUInt32).toInt32) &&& (1 : Int32))), .val (.ref b23), .unset, .unset, .unset, .unset, .unset, .unset] [])) _
    refine own_aload X37.here hx (hb hby at_54) rfl rfl ?_
    refine own_iconst X37.here hx (5 : Int32) (hb hby at_56) rfl ?_
    refine own_lload X37.here hx (hb hby at_57) rfl ?_
    refine st40 _ ?_
    exact kG
  rcases own_o2 p5 with ho | ho
  · obtain ⟨cl43, Ar43, q43, S43, M43, H43, J43⟩ := id V40
    have hin43 : ¬ ((0 : Int32) < 0 ∨ cl43.slots.size ≤ ((0 : Int32)).toNatClampNeg) := inb_of S43 ⟨by decide, by decide⟩
    obtain ⟨T44, h44, X44, e44, W44, st44⟩ := stJ X40 hx hZ e40 Ar43 (j := (0 : Int32)) hin43 (g := (mkF m 65 #[.val (.long q0), .second, .val (.long q1), .second, .val (.long q2), .second, .val (.long q3), .second, .val (.long q4), .second, .val (.int p5), .val (.int (own_rem (p5 &&& (7 : Int32)) (5 : Int32))), .val (.int 0), .val (.ref b23), .unset, .unset, .unset, .unset, .unset, .unset] [(.long q0), (.int 0), (.ref b23)])) rfl rfl (hb hby at_65)
    have V44 : Arv Z h44 b23 k23 .long (6 : Int32) [(.long q0), (.long q4), (.long q4), (.long q4), (.long q4), (.long q4)] (.long 0) := Arv.set Ar43 q43 S43 M43 H43 J43 rfl W44 0 rfl (Nat.le_of_ble_eq_true rfl)
    have N44 := Fr.snoc X44 N40 gg23
    have Z44 : n0 ≤ h44.size := Nat.le_trans Z40 (Keep.of_wr W44).1
    obtain ⟨cl46, Ar46, q46, S46, M46, H46, J46⟩ := id V44
    have hin46 : ¬ ((1 : Int32) < 0 ∨ cl46.slots.size ≤ ((1 : Int32)).toNatClampNeg) := inb_of S46 ⟨by decide, by decide⟩
    obtain ⟨T47, h47, X47, e47, W47, st47⟩ := stJ X44 hx hZ e44 Ar46 (j := (1 : Int32)) hin46 (g := (mkF m 73 #[.val (.long q0), .second, .val (.long q1), .second, .val (.long q2), .second, .val (.long q3), .second, .val (.long q4), .second, .val (.int p5), .val (.int (own_rem (p5 &&& (7 : Int32)) (5 : Int32))), .val (.int 0), .val (.ref b23), .unset, .unset, .unset, .unset, .unset, .unset] [(.long q1), (.int 1), (.ref b23)])) rfl rfl (hb hby at_73)
    have V47 : Arv Z h47 b23 k23 .long (6 : Int32) [(.long q0), (.long q1), (.long q4), (.long q4), (.long q4), (.long q4)] (.long 0) := Arv.set Ar46 q46 S46 M46 H46 J46 rfl W47 1 rfl (Nat.le_of_ble_eq_true rfl)
    have N47 := Fr.snoc X47 N44 gg23
    have Z47 : n0 ≤ h47.size := Nat.le_trans Z44 (Keep.of_wr W47).1
    obtain ⟨cl49, Ar49, q49, S49, M49, H49, J49⟩ := id V47
    have hin49 : ¬ ((2 : Int32) < 0 ∨ cl49.slots.size ≤ ((2 : Int32)).toNatClampNeg) := inb_of S49 ⟨by decide, by decide⟩
    obtain ⟨T50, h50, X50, e50, W50, st50⟩ := stJ X47 hx hZ e47 Ar49 (j := (2 : Int32)) hin49 (g := (mkF m 82 #[.val (.long q0), .second, .val (.long q1), .second, .val (.long q2), .second, .val (.long q3), .second, .val (.long q4), .second, .val (.int p5), .val (.int (own_rem (p5 &&& (7 : Int32)) (5 : Int32))), .val (.int 0), .val (.ref b23), .unset, .unset, .unset, .unset, .unset, .unset] [(.long q2), (.int 2), (.ref b23)])) rfl rfl (hb hby at_82)
    have V50 : Arv Z h50 b23 k23 .long (6 : Int32) [(.long q0), (.long q1), (.long q2), (.long q4), (.long q4), (.long q4)] (.long 0) := Arv.set Ar49 q49 S49 M49 H49 J49 rfl W50 2 rfl (Nat.le_of_ble_eq_true rfl)
    have N50 := Fr.snoc X50 N47 gg23
    have Z50 : n0 ≤ h50.size := Nat.le_trans Z47 (Keep.of_wr W50).1
    obtain ⟨cl52, Ar52, q52, S52, M52, H52, J52⟩ := id V50
    have hin52 : ¬ ((3 : Int32) < 0 ∨ cl52.slots.size ≤ ((3 : Int32)).toNatClampNeg) := inb_of S52 ⟨by decide, by decide⟩
    obtain ⟨T53, h53, X53, e53, W53, st53⟩ := stJ X50 hx hZ e50 Ar52 (j := (3 : Int32)) hin52 (g := (mkF m 91 #[.val (.long q0), .second, .val (.long q1), .second, .val (.long q2), .second, .val (.long q3), .second, .val (.long q4), .second, .val (.int p5), .val (.int (own_rem (p5 &&& (7 : Int32)) (5 : Int32))), .val (.int 0), .val (.ref b23), .unset, .unset, .unset, .unset, .unset, .unset] [(.long q3), (.int 3), (.ref b23)])) rfl rfl (hb hby at_91)
    have V53 : Arv Z h53 b23 k23 .long (6 : Int32) [(.long q0), (.long q1), (.long q2), (.long q3), (.long q4), (.long q4)] (.long 0) := Arv.set Ar52 q52 S52 M52 H52 J52 rfl W53 3 rfl (Nat.le_of_ble_eq_true rfl)
    have N53 := Fr.snoc X53 N50 gg23
    have Z53 : n0 ≤ h53.size := Nat.le_trans Z50 (Keep.of_wr W53).1
    have G55 : ∀ tG, Steps p.tables e below (T53.setTop (mkF m 100 #[.val (.long q0), .second, .val (.long q1), .second, .val (.long q2), .second, .val (.long q3), .second, .val (.long q4), .second, .val (.int p5), .val (.int (own_rem (p5 &&& (7 : Int32)) (5 : Int32))), .val (.int 0), .val (.ref b23), .val (.long (-7046029254386353131)), .second, .val (.long 0), .second, .unset, .unset] [])) tG → Steps p.tables e below (s₁.setTop (mkF m 0 #[.val (.long q0), .second, .val (.long q1), .second, .val (.long q2), .second, .val (.long q3), .second, .val (.long q4), .second, .val (.int p5), .unset, .unset, .unset, .unset, .unset, .unset, .unset, .unset, .unset] [])) tG := by
      intro tG kG
      refine G42 _ ?_
      rw [ho]
      refine own_aload X40.here hx (hb hby at_60) rfl rfl ?_
      refine own_iload X40.here hx (hb hby at_62) rfl ?_
      refine own_lloadN X40.here hx (hb hby at_64) rfl ?_
      refine st44 _ ?_
      show Steps p.tables e below (T44.setTop (mkF m 66 #[.val (.long q0), .second, .val (.long q1), .second, .val (.long q2), .second, .val (.long q3), .second, .val (.long q4), .second, .val (.int p5), .val (.int (own_rem (p5 &&& (7 : Int32)) (5 : Int32))), .val (.int 0), .val (.ref b23), .unset, .unset, .unset, .unset, .unset, .unset] [])) _
      refine own_aload X44.here hx (hb hby at_66) rfl rfl ?_
      refine own_iload X44.here hx (hb hby at_68) rfl ?_
      refine own_iconst X44.here hx (1 : Int32) (hb hby at_70) rfl ?_
      refine own_iadd X44.here hx (hb hby at_71) ?_
      show Steps p.tables e below (T44.setTop (mkF m 72 #[.val (.long q0), .second, .val (.long q1), .second, .val (.long q2), .second, .val (.long q3), .second, .val (.long q4), .second, .val (.int p5), .val (.int (own_rem (p5 &&& (7 : Int32)) (5 : Int32))), .val (.int 0), .val (.ref b23), .unset, .unset, .unset, .unset, .unset, .unset] [(.int 1), (.ref b23)])) _
      refine own_lloadN X44.here hx (hb hby at_72) rfl ?_
      refine st47 _ ?_
      show Steps p.tables e below (T47.setTop (mkF m 74 #[.val (.long q0), .second, .val (.long q1), .second, .val (.long q2), .second, .val (.long q3), .second, .val (.long q4), .second, .val (.int p5), .val (.int (own_rem (p5 &&& (7 : Int32)) (5 : Int32))), .val (.int 0), .val (.ref b23), .unset, .unset, .unset, .unset, .unset, .unset] [])) _
      refine own_aload X47.here hx (hb hby at_74) rfl rfl ?_
      refine own_iload X47.here hx (hb hby at_76) rfl ?_
      refine own_iconst X47.here hx (2 : Int32) (hb hby at_78) rfl ?_
      refine own_iadd X47.here hx (hb hby at_79) ?_
      show Steps p.tables e below (T47.setTop (mkF m 80 #[.val (.long q0), .second, .val (.long q1), .second, .val (.long q2), .second, .val (.long q3), .second, .val (.long q4), .second, .val (.int p5), .val (.int (own_rem (p5 &&& (7 : Int32)) (5 : Int32))), .val (.int 0), .val (.ref b23), .unset, .unset, .unset, .unset, .unset, .unset] [(.int 2), (.ref b23)])) _
      refine own_lload X47.here hx (hb hby at_80) rfl ?_
      refine st50 _ ?_
      show Steps p.tables e below (T50.setTop (mkF m 83 #[.val (.long q0), .second, .val (.long q1), .second, .val (.long q2), .second, .val (.long q3), .second, .val (.long q4), .second, .val (.int p5), .val (.int (own_rem (p5 &&& (7 : Int32)) (5 : Int32))), .val (.int 0), .val (.ref b23), .unset, .unset, .unset, .unset, .unset, .unset] [])) _
      refine own_aload X50.here hx (hb hby at_83) rfl rfl ?_
      refine own_iload X50.here hx (hb hby at_85) rfl ?_
      refine own_iconst X50.here hx (3 : Int32) (hb hby at_87) rfl ?_
      refine own_iadd X50.here hx (hb hby at_88) ?_
      show Steps p.tables e below (T50.setTop (mkF m 89 #[.val (.long q0), .second, .val (.long q1), .second, .val (.long q2), .second, .val (.long q3), .second, .val (.long q4), .second, .val (.int p5), .val (.int (own_rem (p5 &&& (7 : Int32)) (5 : Int32))), .val (.int 0), .val (.ref b23), .unset, .unset, .unset, .unset, .unset, .unset] [(.int 3), (.ref b23)])) _
      refine own_lload X50.here hx (hb hby at_89) rfl ?_
      refine st53 _ ?_
      show Steps p.tables e below (T53.setTop (mkF m 92 #[.val (.long q0), .second, .val (.long q1), .second, .val (.long q2), .second, .val (.long q3), .second, .val (.long q4), .second, .val (.int p5), .val (.int (own_rem (p5 &&& (7 : Int32)) (5 : Int32))), .val (.int 0), .val (.ref b23), .unset, .unset, .unset, .unset, .unset, .unset] [])) _
      refine X53.ldc2Long hx hown (mvT hZ (hw _ (List.mem_of_getElem? (i := 1) rfl))) (g := (mkF m 92 #[.val (.long q0), .second, .val (.long q1), .second, .val (.long q2), .second, .val (.long q3), .second, .val (.long q4), .second, .val (.int p5), .val (.int (own_rem (p5 &&& (7 : Int32)) (5 : Int32))), .val (.int 0), .val (.ref b23), .unset, .unset, .unset, .unset, .unset, .unset] [])) rfl (hb hby at_92) _ ?_
      show Steps p.tables e below (T53.setTop (mkF m 95 #[.val (.long q0), .second, .val (.long q1), .second, .val (.long q2), .second, .val (.long q3), .second, .val (.long q4), .second, .val (.int p5), .val (.int (own_rem (p5 &&& (7 : Int32)) (5 : Int32))), .val (.int 0), .val (.ref b23), .unset, .unset, .unset, .unset, .unset, .unset] [(.long (-7046029254386353131))])) _
      refine own_lstore X53.here hx (hb hby at_95) (l' := #[.val (.long q0), .second, .val (.long q1), .second, .val (.long q2), .second, .val (.long q3), .second, .val (.long q4), .second, .val (.int p5), .val (.int (own_rem (p5 &&& (7 : Int32)) (5 : Int32))), .val (.int 0), .val (.ref b23), .val (.long (-7046029254386353131)), .second, .unset, .unset, .unset, .unset]) rfl ?_
      refine own_lconst0 X53.here hx (hb hby at_97) ?_
      refine own_lstore X53.here hx (hb hby at_98) (l' := #[.val (.long q0), .second, .val (.long q1), .second, .val (.long q2), .second, .val (.long q3), .second, .val (.long q4), .second, .val (.int p5), .val (.int (own_rem (p5 &&& (7 : Int32)) (5 : Int32))), .val (.int 0), .val (.ref b23), .val (.long (-7046029254386353131)), .second, .val (.long 0), .second, .unset, .unset]) rfl ?_
      exact kG
    rcases own_l5 p5 with hl | hl | hl | hl | hl
    · obtain ⟨_, _, ⟨T56, L56, k56, n56⟩, -, X56, ⟨Lc56, hQ56, l56, y56, z56⟩, st56⟩ := Jvm.LawKit.callS X53 hx (y := (⟨"com/example/naqsh/naqsh/mining/TransactionSets", "fingerprint", "([JII)J"⟩ : MethodName)) hown (mvT hZ (hw _ (List.mem_of_getElem? (i := 3) rfl))) (mvT hZ (hw _ (List.mem_of_getElem? (i := 4) rfl))) (mvT hZ (hw _ (List.mem_of_getElem? (i := 5) rfl))) (mvT hZ (hw _ (List.mem_of_getElem? (i := 6) rfl))) (by decide) (backOf (W := 0) (rmF_0_0 l Z a0 hw [] b23 k23 q0 q1 q2 q3 q4 q4 h53 n0 Z53 V53) hZ (hw _ (List.mem_of_getElem? (i := 6) rfl)) (hw _ (List.mem_of_getElem? (i := 5) rfl)) (by decide) (by decide)) (g := (mkF m 179 #[.val (.long q0), .second, .val (.long q1), .second, .val (.long q2), .second, .val (.long q3), .second, .val (.long q4), .second, .val (.int p5), .val (.int 0), .val (.int 0), .val (.ref b23), .val (.long (-7046029254386353131)), .second, .val (.long 0), .second, .unset, .unset] [(.int 0), (.int 0), (.ref b23)])) rfl (by rw [hml]; rfl) (argsL := [(.ref b23), (.int 0), (.int 0)]) (rest := []) (lenOf pd_285bJII29J rfl) rfl (by show 2 * 0 + _ ≤ _; exact Nat.le_of_eq rfl) (hb hby at_179) (fun _ _ => ⟨rfl, e53, (by decide : 1 + 0 ≤ _), (by decide : 6 + 0 ≤ _)⟩)
      dsimp only [Pt.U, Pt.locs, Pt.cells, Pt.slots] at X56 l56 y56 z56 st56 hQ56
      subst l56 y56 z56
      obtain ⟨rfl, N56q, e56⟩ := hQ56
      have N56 := Fr.app N53 N56q
      obtain ⟨_, _, ⟨T57, L57, k57, n57⟩, -, X57, ⟨Lc57, hQ57, l57, y57, z57⟩, st57⟩ := Jvm.LawKit.callS X56 hx (y := (⟨"com/example/naqsh/naqsh/mining/TransactionSetsFingerprintPinLaw", "unmix", "(J)J"⟩ : MethodName)) hown (mvT hZ (hw _ (List.mem_of_getElem? (i := 11) rfl))) (mvT hZ (hw _ (List.mem_of_getElem? (i := 12) rfl))) (mvT hZ (hw _ (List.mem_of_getElem? (i := 13) rfl))) (mvT hZ (hw _ (List.mem_of_getElem? (i := 14) rfl))) (by decide) (backOf (W := 0) (rm2 l Z a0 hw [] (own_mix (0 : Int64)) h53 n0 Z53) hZ (hw _ (List.mem_of_getElem? (i := 14) rfl)) (hw _ (List.mem_of_getElem? (i := 13) rfl)) (by decide) (by decide)) (g := (mkF m 186 #[.val (.long q0), .second, .val (.long q1), .second, .val (.long q2), .second, .val (.long q3), .second, .val (.long q4), .second, .val (.int p5), .val (.int 0), .val (.int 0), .val (.ref b23), .val (.long (-7046029254386353131)), .second, .val (.long 0), .second, .val (.long (own_mix (0 : Int64))), .second] [(.long (own_mix (0 : Int64)))])) rfl (by rw [hml]; rfl) (argsL := [(.long (own_mix (0 : Int64)))]) (rest := []) (lenOf pd_28J29J rfl) rfl (by show 2 * 0 + _ ≤ _; exact Nat.le_of_eq rfl) (hb hby at_186) (fun _ _ => ⟨rfl, e56, (by decide : 1 + 0 ≤ _), (by decide : 6 + 0 ≤ _)⟩)
      dsimp only [Pt.U, Pt.locs, Pt.cells, Pt.slots] at X57 l57 y57 z57 st57 hQ57
      subst l57 y57 z57
      obtain ⟨rfl, N57q, e57⟩ := hQ57
      have N57 := Fr.app N56 N57q
      obtain ⟨fs, hr, hrun, hended, hW, hsame⟩ := X57.leave (v := some (.int 1)) (fun h => by rw [Bd.returns] at h; cases h)
      refine ⟨_, _, pre0 _ ?_, hrun, hended, _, _, rfl, ?_, ⟨_, rfl⟩, hW, hsame.mono (by decide) (by decide)⟩
      · refine G55 _ ?_
        rw [hl]
        refine own_iload X53.here hx (hb hby at_100) rfl ?_
        refine own_ifYes X53.here hx 102 114 rfl (hb hby at_102) ((if0 _ _).trans (flt (by decide : ¬ ((0 : Int32) < (0 : Int32)))).2.2.2) (by decide) (by decide) ?_
        refine own_iload X53.here hx (hb hby at_114) rfl ?_
        refine own_iconst X53.here hx (1 : Int32) (hb hby at_116) rfl ?_
        refine own_icmpYes X53.here hx 117 133 rfl (hb hby at_117) (flt (by decide : ¬ ((1 : Int32) < (0 : Int32)))).2.2.2 (by decide) (by decide) ?_
        refine own_iload X53.here hx (hb hby at_133) rfl ?_
        refine own_iconst X53.here hx (2 : Int32) (hb hby at_135) rfl ?_
        refine own_icmpYes X53.here hx 136 153 rfl (hb hby at_136) (flt (by decide : ¬ ((2 : Int32) < (0 : Int32)))).2.2.2 (by decide) (by decide) ?_
        refine own_iload X53.here hx (hb hby at_153) rfl ?_
        refine own_iconst X53.here hx (3 : Int32) (hb hby at_155) rfl ?_
        refine own_icmpYes X53.here hx 156 173 rfl (hb hby at_156) (flt (by decide : ¬ ((3 : Int32) < (0 : Int32)))).2.2.2 (by decide) (by decide) ?_
        refine own_aload X53.here hx (hb hby at_173) rfl rfl ?_
        refine own_iload X53.here hx (hb hby at_175) rfl ?_
        refine own_iload X53.here hx (hb hby at_177) rfl ?_
        refine st56 _ ?_
        show Steps p.tables e below (T56.setTop (mkF m 182 #[.val (.long q0), .second, .val (.long q1), .second, .val (.long q2), .second, .val (.long q3), .second, .val (.long q4), .second, .val (.int p5), .val (.int 0), .val (.int 0), .val (.ref b23), .val (.long (-7046029254386353131)), .second, .val (.long 0), .second, .unset, .unset] [(.long (own_mix (0 : Int64)))])) _
        refine own_lstore X56.here hx (hb hby at_182) (l' := #[.val (.long q0), .second, .val (.long q1), .second, .val (.long q2), .second, .val (.long q3), .second, .val (.long q4), .second, .val (.int p5), .val (.int 0), .val (.int 0), .val (.ref b23), .val (.long (-7046029254386353131)), .second, .val (.long 0), .second, .val (.long (own_mix (0 : Int64))), .second]) rfl ?_
        refine own_lload X56.here hx (hb hby at_184) rfl ?_
        refine st57 _ ?_
        show Steps p.tables e below (T57.setTop (mkF m 189 #[.val (.long q0), .second, .val (.long q1), .second, .val (.long q2), .second, .val (.long q3), .second, .val (.long q4), .second, .val (.int p5), .val (.int 0), .val (.int 0), .val (.ref b23), .val (.long (-7046029254386353131)), .second, .val (.long 0), .second, .val (.long (own_mix (0 : Int64))), .second] [(.long (own_un (own_mix (0 : Int64))))])) _
        refine own_lload X57.here hx (hb hby at_189) rfl ?_
        refine own_lcmp X57.here hx (hb hby at_191) ?_
        refine own_ifNo X57.here hx (hb hby at_192) ((if0 _ _).trans (teq ((lw_eq _ _).mpr (own_unmix _))).2) ?_
        refine own_iconst X57.here hx (1 : Int32) (hb hby at_195) rfl ?_
        refine own_goto X57.here hx 196 200 rfl (hb hby at_196) (by decide) (by decide) ?_
        exact retN X57 hx (t := .boolean) Bd.returns (by simp) (hb hby at_200) hr
      · show Q0 Z q0 q1 q2 q3 q4 p5 h0 n0 _ T57.heap _
        rw [e57]
        exact ⟨rfl, N57⟩
    · obtain ⟨_, _, ⟨T58, L58, k58, n58⟩, -, X58, ⟨Lc58, hQ58, l58, y58, z58⟩, st58⟩ := Jvm.LawKit.callS X53 hx (y := (⟨"com/example/naqsh/naqsh/mining/TransactionSets", "fingerprint", "([JII)J"⟩ : MethodName)) hown (mvT hZ (hw _ (List.mem_of_getElem? (i := 3) rfl))) (mvT hZ (hw _ (List.mem_of_getElem? (i := 4) rfl))) (mvT hZ (hw _ (List.mem_of_getElem? (i := 5) rfl))) (mvT hZ (hw _ (List.mem_of_getElem? (i := 6) rfl))) (by decide) (backOf (W := 0) (rmF_0_1 l Z a0 hw [] b23 k23 q0 q1 q2 q3 q4 q4 h53 n0 Z53 V53) hZ (hw _ (List.mem_of_getElem? (i := 6) rfl)) (hw _ (List.mem_of_getElem? (i := 5) rfl)) (by decide) (by decide)) (g := (mkF m 179 #[.val (.long q0), .second, .val (.long q1), .second, .val (.long q2), .second, .val (.long q3), .second, .val (.long q4), .second, .val (.int p5), .val (.int 1), .val (.int 0), .val (.ref b23), .val (.long (-7046029254386353131)), .second, .val (.long ((0 : Int64) + (q0 * (-7046029254386353131 : Int64)))), .second, .unset, .unset] [(.int 1), (.int 0), (.ref b23)])) rfl (by rw [hml]; rfl) (argsL := [(.ref b23), (.int 0), (.int 1)]) (rest := []) (lenOf pd_285bJII29J rfl) rfl (by show 2 * 0 + _ ≤ _; exact Nat.le_of_eq rfl) (hb hby at_179) (fun _ _ => ⟨rfl, e53, (by decide : 1 + 0 ≤ _), (by decide : 6 + 0 ≤ _)⟩)
      dsimp only [Pt.U, Pt.locs, Pt.cells, Pt.slots] at X58 l58 y58 z58 st58 hQ58
      subst l58 y58 z58
      obtain ⟨rfl, N58q, e58⟩ := hQ58
      have N58 := Fr.app N53 N58q
      obtain ⟨_, _, ⟨T59, L59, k59, n59⟩, -, X59, ⟨Lc59, hQ59, l59, y59, z59⟩, st59⟩ := Jvm.LawKit.callS X58 hx (y := (⟨"com/example/naqsh/naqsh/mining/TransactionSetsFingerprintPinLaw", "unmix", "(J)J"⟩ : MethodName)) hown (mvT hZ (hw _ (List.mem_of_getElem? (i := 11) rfl))) (mvT hZ (hw _ (List.mem_of_getElem? (i := 12) rfl))) (mvT hZ (hw _ (List.mem_of_getElem? (i := 13) rfl))) (mvT hZ (hw _ (List.mem_of_getElem? (i := 14) rfl))) (by decide) (backOf (W := 0) (rm2 l Z a0 hw [] (own_mix ((0 : Int64) + (q0 * (-7046029254386353131 : Int64)))) h53 n0 Z53) hZ (hw _ (List.mem_of_getElem? (i := 14) rfl)) (hw _ (List.mem_of_getElem? (i := 13) rfl)) (by decide) (by decide)) (g := (mkF m 186 #[.val (.long q0), .second, .val (.long q1), .second, .val (.long q2), .second, .val (.long q3), .second, .val (.long q4), .second, .val (.int p5), .val (.int 1), .val (.int 0), .val (.ref b23), .val (.long (-7046029254386353131)), .second, .val (.long ((0 : Int64) + (q0 * (-7046029254386353131 : Int64)))), .second, .val (.long (own_mix ((0 : Int64) + (q0 * (-7046029254386353131 : Int64))))), .second] [(.long (own_mix ((0 : Int64) + (q0 * (-7046029254386353131 : Int64)))))])) rfl (by rw [hml]; rfl) (argsL := [(.long (own_mix ((0 : Int64) + (q0 * (-7046029254386353131 : Int64)))))]) (rest := []) (lenOf pd_28J29J rfl) rfl (by show 2 * 0 + _ ≤ _; exact Nat.le_of_eq rfl) (hb hby at_186) (fun _ _ => ⟨rfl, e58, (by decide : 1 + 0 ≤ _), (by decide : 6 + 0 ≤ _)⟩)
      dsimp only [Pt.U, Pt.locs, Pt.cells, Pt.slots] at X59 l59 y59 z59 st59 hQ59
      subst l59 y59 z59
      obtain ⟨rfl, N59q, e59⟩ := hQ59
      have N59 := Fr.app N58 N59q
      obtain ⟨fs, hr, hrun, hended, hW, hsame⟩ := X59.leave (v := some (.int 1)) (fun h => by rw [Bd.returns] at h; cases h)
      refine ⟨_, _, pre0 _ ?_, hrun, hended, _, _, rfl, ?_, ⟨_, rfl⟩, hW, hsame.mono (by decide) (by decide)⟩
      · refine G55 _ ?_
        rw [hl]
        refine own_iload X53.here hx (hb hby at_100) rfl ?_
        refine own_ifNo X53.here hx (hb hby at_102) ((if0 _ _).trans (tlt (by decide : (0 : Int32) < (1 : Int32))).2.2.2) ?_
        refine own_lload X53.here hx (hb hby at_105) rfl ?_
        refine own_lloadN X53.here hx (hb hby at_107) rfl ?_
        refine own_lload X53.here hx (hb hby at_108) rfl ?_
        refine own_lmul X53.here hx (hb hby at_110) ?_
        refine own_ladd X53.here hx (hb hby at_111) ?_
        refine own_lstore X53.here hx (hb hby at_112) (l' := #[.val (.long q0), .second, .val (.long q1), .second, .val (.long q2), .second, .val (.long q3), .second, .val (.long q4), .second, .val (.int p5), .val (.int 1), .val (.int 0), .val (.ref b23), .val (.long (-7046029254386353131)), .second, .val (.long ((0 : Int64) + (q0 * (-7046029254386353131 : Int64)))), .second, .unset, .unset]) rfl ?_
        refine own_iload X53.here hx (hb hby at_114) rfl ?_
        refine own_iconst X53.here hx (1 : Int32) (hb hby at_116) rfl ?_
        refine own_icmpYes X53.here hx 117 133 rfl (hb hby at_117) (flt (by decide : ¬ ((1 : Int32) < (1 : Int32)))).2.2.2 (by decide) (by decide) ?_
        refine own_iload X53.here hx (hb hby at_133) rfl ?_
        refine own_iconst X53.here hx (2 : Int32) (hb hby at_135) rfl ?_
        refine own_icmpYes X53.here hx 136 153 rfl (hb hby at_136) (flt (by decide : ¬ ((2 : Int32) < (1 : Int32)))).2.2.2 (by decide) (by decide) ?_
        refine own_iload X53.here hx (hb hby at_153) rfl ?_
        refine own_iconst X53.here hx (3 : Int32) (hb hby at_155) rfl ?_
        refine own_icmpYes X53.here hx 156 173 rfl (hb hby at_156) (flt (by decide : ¬ ((3 : Int32) < (1 : Int32)))).2.2.2 (by decide) (by decide) ?_
        refine own_aload X53.here hx (hb hby at_173) rfl rfl ?_
        refine own_iload X53.here hx (hb hby at_175) rfl ?_
        refine own_iload X53.here hx (hb hby at_177) rfl ?_
        refine st58 _ ?_
        show Steps p.tables e below (T58.setTop (mkF m 182 #[.val (.long q0), .second, .val (.long q1), .second, .val (.long q2), .second, .val (.long q3), .second, .val (.long q4), .second, .val (.int p5), .val (.int 1), .val (.int 0), .val (.ref b23), .val (.long (-7046029254386353131)), .second, .val (.long ((0 : Int64) + (q0 * (-7046029254386353131 : Int64)))), .second, .unset, .unset] [(.long (own_mix ((0 : Int64) + (q0 * (-7046029254386353131 : Int64)))))])) _
        refine own_lstore X58.here hx (hb hby at_182) (l' := #[.val (.long q0), .second, .val (.long q1), .second, .val (.long q2), .second, .val (.long q3), .second, .val (.long q4), .second, .val (.int p5), .val (.int 1), .val (.int 0), .val (.ref b23), .val (.long (-7046029254386353131)), .second, .val (.long ((0 : Int64) + (q0 * (-7046029254386353131 : Int64)))), .second, .val (.long (own_mix ((0 : Int64) + (q0 * (-7046029254386353131 : Int64))))), .second]) rfl ?_
        refine own_lload X58.here hx (hb hby at_184) rfl ?_
        refine st59 _ ?_
        show Steps p.tables e below (T59.setTop (mkF m 189 #[.val (.long q0), .second, .val (.long q1), .second, .val (.long q2), .second, .val (.long q3), .second, .val (.long q4), .second, .val (.int p5), .val (.int 1), .val (.int 0), .val (.ref b23), .val (.long (-7046029254386353131)), .second, .val (.long ((0 : Int64) + (q0 * (-7046029254386353131 : Int64)))), .second, .val (.long (own_mix ((0 : Int64) + (q0 * (-7046029254386353131 : Int64))))), .second] [(.long (own_un (own_mix ((0 : Int64) + (q0 * (-7046029254386353131 : Int64))))))])) _
        refine own_lload X59.here hx (hb hby at_189) rfl ?_
        refine own_lcmp X59.here hx (hb hby at_191) ?_
        refine own_ifNo X59.here hx (hb hby at_192) ((if0 _ _).trans (teq ((lw_eq _ _).mpr (own_unmix _))).2) ?_
        refine own_iconst X59.here hx (1 : Int32) (hb hby at_195) rfl ?_
        refine own_goto X59.here hx 196 200 rfl (hb hby at_196) (by decide) (by decide) ?_
        exact retN X59 hx (t := .boolean) Bd.returns (by simp) (hb hby at_200) hr
      · show Q0 Z q0 q1 q2 q3 q4 p5 h0 n0 _ T59.heap _
        rw [e59]
        exact ⟨rfl, N59⟩
    · obtain ⟨_, _, ⟨T60, L60, k60, n60⟩, -, X60, ⟨Lc60, hQ60, l60, y60, z60⟩, st60⟩ := Jvm.LawKit.callS X53 hx (y := (⟨"com/example/naqsh/naqsh/mining/TransactionSets", "fingerprint", "([JII)J"⟩ : MethodName)) hown (mvT hZ (hw _ (List.mem_of_getElem? (i := 3) rfl))) (mvT hZ (hw _ (List.mem_of_getElem? (i := 4) rfl))) (mvT hZ (hw _ (List.mem_of_getElem? (i := 5) rfl))) (mvT hZ (hw _ (List.mem_of_getElem? (i := 6) rfl))) (by decide) (backOf (W := 0) (rmF_0_2 l Z a0 hw [] b23 k23 q0 q1 q2 q3 q4 q4 h53 n0 Z53 V53) hZ (hw _ (List.mem_of_getElem? (i := 6) rfl)) (hw _ (List.mem_of_getElem? (i := 5) rfl)) (by decide) (by decide)) (g := (mkF m 179 #[.val (.long q0), .second, .val (.long q1), .second, .val (.long q2), .second, .val (.long q3), .second, .val (.long q4), .second, .val (.int p5), .val (.int 2), .val (.int 0), .val (.ref b23), .val (.long (-7046029254386353131)), .second, .val (.long (((0 : Int64) + (q0 * (-7046029254386353131 : Int64))) + (q1 * (-7046029254386353129 : Int64)))), .second, .unset, .unset] [(.int 2), (.int 0), (.ref b23)])) rfl (by rw [hml]; rfl) (argsL := [(.ref b23), (.int 0), (.int 2)]) (rest := []) (lenOf pd_285bJII29J rfl) rfl (by show 2 * 0 + _ ≤ _; exact Nat.le_of_eq rfl) (hb hby at_179) (fun _ _ => ⟨rfl, e53, (by decide : 1 + 0 ≤ _), (by decide : 6 + 0 ≤ _)⟩)
      dsimp only [Pt.U, Pt.locs, Pt.cells, Pt.slots] at X60 l60 y60 z60 st60 hQ60
      subst l60 y60 z60
      obtain ⟨rfl, N60q, e60⟩ := hQ60
      have N60 := Fr.app N53 N60q
      obtain ⟨_, _, ⟨T61, L61, k61, n61⟩, -, X61, ⟨Lc61, hQ61, l61, y61, z61⟩, st61⟩ := Jvm.LawKit.callS X60 hx (y := (⟨"com/example/naqsh/naqsh/mining/TransactionSetsFingerprintPinLaw", "unmix", "(J)J"⟩ : MethodName)) hown (mvT hZ (hw _ (List.mem_of_getElem? (i := 11) rfl))) (mvT hZ (hw _ (List.mem_of_getElem? (i := 12) rfl))) (mvT hZ (hw _ (List.mem_of_getElem? (i := 13) rfl))) (mvT hZ (hw _ (List.mem_of_getElem? (i := 14) rfl))) (by decide) (backOf (W := 0) (rm2 l Z a0 hw [] (own_mix (((0 : Int64) + (q0 * (-7046029254386353131 : Int64))) + (q1 * (-7046029254386353129 : Int64)))) h53 n0 Z53) hZ (hw _ (List.mem_of_getElem? (i := 14) rfl)) (hw _ (List.mem_of_getElem? (i := 13) rfl)) (by decide) (by decide)) (g := (mkF m 186 #[.val (.long q0), .second, .val (.long q1), .second, .val (.long q2), .second, .val (.long q3), .second, .val (.long q4), .second, .val (.int p5), .val (.int 2), .val (.int 0), .val (.ref b23), .val (.long (-7046029254386353131)), .second, .val (.long (((0 : Int64) + (q0 * (-7046029254386353131 : Int64))) + (q1 * (-7046029254386353129 : Int64)))), .second, .val (.long (own_mix (((0 : Int64) + (q0 * (-7046029254386353131 : Int64))) + (q1 * (-7046029254386353129 : Int64))))), .second] [(.long (own_mix (((0 : Int64) + (q0 * (-7046029254386353131 : Int64))) + (q1 * (-7046029254386353129 : Int64)))))])) rfl (by rw [hml]; rfl) (argsL := [(.long (own_mix (((0 : Int64) + (q0 * (-7046029254386353131 : Int64))) + (q1 * (-7046029254386353129 : Int64)))))]) (rest := []) (lenOf pd_28J29J rfl) rfl (by show 2 * 0 + _ ≤ _; exact Nat.le_of_eq rfl) (hb hby at_186) (fun _ _ => ⟨rfl, e60, (by decide : 1 + 0 ≤ _), (by decide : 6 + 0 ≤ _)⟩)
      dsimp only [Pt.U, Pt.locs, Pt.cells, Pt.slots] at X61 l61 y61 z61 st61 hQ61
      subst l61 y61 z61
      obtain ⟨rfl, N61q, e61⟩ := hQ61
      have N61 := Fr.app N60 N61q
      obtain ⟨fs, hr, hrun, hended, hW, hsame⟩ := X61.leave (v := some (.int 1)) (fun h => by rw [Bd.returns] at h; cases h)
      refine ⟨_, _, pre0 _ ?_, hrun, hended, _, _, rfl, ?_, ⟨_, rfl⟩, hW, hsame.mono (by decide) (by decide)⟩
      · refine G55 _ ?_
        rw [hl]
        refine own_iload X53.here hx (hb hby at_100) rfl ?_
        refine own_ifNo X53.here hx (hb hby at_102) ((if0 _ _).trans (tlt (by decide : (0 : Int32) < (2 : Int32))).2.2.2) ?_
        refine own_lload X53.here hx (hb hby at_105) rfl ?_
        refine own_lloadN X53.here hx (hb hby at_107) rfl ?_
        refine own_lload X53.here hx (hb hby at_108) rfl ?_
        refine own_lmul X53.here hx (hb hby at_110) ?_
        refine own_ladd X53.here hx (hb hby at_111) ?_
        refine own_lstore X53.here hx (hb hby at_112) (l' := #[.val (.long q0), .second, .val (.long q1), .second, .val (.long q2), .second, .val (.long q3), .second, .val (.long q4), .second, .val (.int p5), .val (.int 2), .val (.int 0), .val (.ref b23), .val (.long (-7046029254386353131)), .second, .val (.long ((0 : Int64) + (q0 * (-7046029254386353131 : Int64)))), .second, .unset, .unset]) rfl ?_
        refine own_iload X53.here hx (hb hby at_114) rfl ?_
        refine own_iconst X53.here hx (1 : Int32) (hb hby at_116) rfl ?_
        refine own_icmpNo X53.here hx (hb hby at_117) (tlt (by decide : (1 : Int32) < (2 : Int32))).2.2.2 ?_
        refine own_lload X53.here hx (hb hby at_120) rfl ?_
        refine own_lloadN X53.here hx (hb hby at_122) rfl ?_
        refine own_lload X53.here hx (hb hby at_123) rfl ?_
        refine X53.ldc2Long hx hown (mvT hZ (hw _ (List.mem_of_getElem? (i := 2) rfl))) (g := (mkF m 125 #[.val (.long q0), .second, .val (.long q1), .second, .val (.long q2), .second, .val (.long q3), .second, .val (.long q4), .second, .val (.int p5), .val (.int 2), .val (.int 0), .val (.ref b23), .val (.long (-7046029254386353131)), .second, .val (.long ((0 : Int64) + (q0 * (-7046029254386353131 : Int64)))), .second, .unset, .unset] [(.long (-7046029254386353131)), (.long q1), (.long ((0 : Int64) + (q0 * (-7046029254386353131 : Int64))))])) rfl (hb hby at_125) _ ?_
        show Steps p.tables e below (T53.setTop (mkF m 128 #[.val (.long q0), .second, .val (.long q1), .second, .val (.long q2), .second, .val (.long q3), .second, .val (.long q4), .second, .val (.int p5), .val (.int 2), .val (.int 0), .val (.ref b23), .val (.long (-7046029254386353131)), .second, .val (.long ((0 : Int64) + (q0 * (-7046029254386353131 : Int64)))), .second, .unset, .unset] [(.long 2), (.long (-7046029254386353131)), (.long q1), (.long ((0 : Int64) + (q0 * (-7046029254386353131 : Int64))))])) _
        refine own_ladd X53.here hx (hb hby at_128) ?_
        show Steps p.tables e below (T53.setTop (mkF m 129 #[.val (.long q0), .second, .val (.long q1), .second, .val (.long q2), .second, .val (.long q3), .second, .val (.long q4), .second, .val (.int p5), .val (.int 2), .val (.int 0), .val (.ref b23), .val (.long (-7046029254386353131)), .second, .val (.long ((0 : Int64) + (q0 * (-7046029254386353131 : Int64)))), .second, .unset, .unset] [(.long (-7046029254386353129)), (.long q1), (.long ((0 : Int64) + (q0 * (-7046029254386353131 : Int64))))])) _
        refine own_lmul X53.here hx (hb hby at_129) ?_
        refine own_ladd X53.here hx (hb hby at_130) ?_
        refine own_lstore X53.here hx (hb hby at_131) (l' := #[.val (.long q0), .second, .val (.long q1), .second, .val (.long q2), .second, .val (.long q3), .second, .val (.long q4), .second, .val (.int p5), .val (.int 2), .val (.int 0), .val (.ref b23), .val (.long (-7046029254386353131)), .second, .val (.long (((0 : Int64) + (q0 * (-7046029254386353131 : Int64))) + (q1 * (-7046029254386353129 : Int64)))), .second, .unset, .unset]) rfl ?_
        refine own_iload X53.here hx (hb hby at_133) rfl ?_
        refine own_iconst X53.here hx (2 : Int32) (hb hby at_135) rfl ?_
        refine own_icmpYes X53.here hx 136 153 rfl (hb hby at_136) (flt (by decide : ¬ ((2 : Int32) < (2 : Int32)))).2.2.2 (by decide) (by decide) ?_
        refine own_iload X53.here hx (hb hby at_153) rfl ?_
        refine own_iconst X53.here hx (3 : Int32) (hb hby at_155) rfl ?_
        refine own_icmpYes X53.here hx 156 173 rfl (hb hby at_156) (flt (by decide : ¬ ((3 : Int32) < (2 : Int32)))).2.2.2 (by decide) (by decide) ?_
        refine own_aload X53.here hx (hb hby at_173) rfl rfl ?_
        refine own_iload X53.here hx (hb hby at_175) rfl ?_
        refine own_iload X53.here hx (hb hby at_177) rfl ?_
        refine st60 _ ?_
        show Steps p.tables e below (T60.setTop (mkF m 182 #[.val (.long q0), .second, .val (.long q1), .second, .val (.long q2), .second, .val (.long q3), .second, .val (.long q4), .second, .val (.int p5), .val (.int 2), .val (.int 0), .val (.ref b23), .val (.long (-7046029254386353131)), .second, .val (.long (((0 : Int64) + (q0 * (-7046029254386353131 : Int64))) + (q1 * (-7046029254386353129 : Int64)))), .second, .unset, .unset] [(.long (own_mix (((0 : Int64) + (q0 * (-7046029254386353131 : Int64))) + (q1 * (-7046029254386353129 : Int64)))))])) _
        refine own_lstore X60.here hx (hb hby at_182) (l' := #[.val (.long q0), .second, .val (.long q1), .second, .val (.long q2), .second, .val (.long q3), .second, .val (.long q4), .second, .val (.int p5), .val (.int 2), .val (.int 0), .val (.ref b23), .val (.long (-7046029254386353131)), .second, .val (.long (((0 : Int64) + (q0 * (-7046029254386353131 : Int64))) + (q1 * (-7046029254386353129 : Int64)))), .second, .val (.long (own_mix (((0 : Int64) + (q0 * (-7046029254386353131 : Int64))) + (q1 * (-7046029254386353129 : Int64))))), .second]) rfl ?_
        refine own_lload X60.here hx (hb hby at_184) rfl ?_
        refine st61 _ ?_
        show Steps p.tables e below (T61.setTop (mkF m 189 #[.val (.long q0), .second, .val (.long q1), .second, .val (.long q2), .second, .val (.long q3), .second, .val (.long q4), .second, .val (.int p5), .val (.int 2), .val (.int 0), .val (.ref b23), .val (.long (-7046029254386353131)), .second, .val (.long (((0 : Int64) + (q0 * (-7046029254386353131 : Int64))) + (q1 * (-7046029254386353129 : Int64)))), .second, .val (.long (own_mix (((0 : Int64) + (q0 * (-7046029254386353131 : Int64))) + (q1 * (-7046029254386353129 : Int64))))), .second] [(.long (own_un (own_mix (((0 : Int64) + (q0 * (-7046029254386353131 : Int64))) + (q1 * (-7046029254386353129 : Int64))))))])) _
        refine own_lload X61.here hx (hb hby at_189) rfl ?_
        refine own_lcmp X61.here hx (hb hby at_191) ?_
        refine own_ifNo X61.here hx (hb hby at_192) ((if0 _ _).trans (teq ((lw_eq _ _).mpr (own_unmix _))).2) ?_
        refine own_iconst X61.here hx (1 : Int32) (hb hby at_195) rfl ?_
        refine own_goto X61.here hx 196 200 rfl (hb hby at_196) (by decide) (by decide) ?_
        exact retN X61 hx (t := .boolean) Bd.returns (by simp) (hb hby at_200) hr
      · show Q0 Z q0 q1 q2 q3 q4 p5 h0 n0 _ T61.heap _
        rw [e61]
        exact ⟨rfl, N61⟩
    · obtain ⟨_, _, ⟨T62, L62, k62, n62⟩, -, X62, ⟨Lc62, hQ62, l62, y62, z62⟩, st62⟩ := Jvm.LawKit.callS X53 hx (y := (⟨"com/example/naqsh/naqsh/mining/TransactionSets", "fingerprint", "([JII)J"⟩ : MethodName)) hown (mvT hZ (hw _ (List.mem_of_getElem? (i := 3) rfl))) (mvT hZ (hw _ (List.mem_of_getElem? (i := 4) rfl))) (mvT hZ (hw _ (List.mem_of_getElem? (i := 5) rfl))) (mvT hZ (hw _ (List.mem_of_getElem? (i := 6) rfl))) (by decide) (backOf (W := 0) (rmF_0_3 l Z a0 hw [] b23 k23 q0 q1 q2 q3 q4 q4 h53 n0 Z53 V53) hZ (hw _ (List.mem_of_getElem? (i := 6) rfl)) (hw _ (List.mem_of_getElem? (i := 5) rfl)) (by decide) (by decide)) (g := (mkF m 179 #[.val (.long q0), .second, .val (.long q1), .second, .val (.long q2), .second, .val (.long q3), .second, .val (.long q4), .second, .val (.int p5), .val (.int 3), .val (.int 0), .val (.ref b23), .val (.long (-7046029254386353131)), .second, .val (.long ((((0 : Int64) + (q0 * (-7046029254386353131 : Int64))) + (q1 * (-7046029254386353129 : Int64))) + (q2 * (-7046029254386353127 : Int64)))), .second, .unset, .unset] [(.int 3), (.int 0), (.ref b23)])) rfl (by rw [hml]; rfl) (argsL := [(.ref b23), (.int 0), (.int 3)]) (rest := []) (lenOf pd_285bJII29J rfl) rfl (by show 2 * 0 + _ ≤ _; exact Nat.le_of_eq rfl) (hb hby at_179) (fun _ _ => ⟨rfl, e53, (by decide : 1 + 0 ≤ _), (by decide : 6 + 0 ≤ _)⟩)
      dsimp only [Pt.U, Pt.locs, Pt.cells, Pt.slots] at X62 l62 y62 z62 st62 hQ62
      subst l62 y62 z62
      obtain ⟨rfl, N62q, e62⟩ := hQ62
      have N62 := Fr.app N53 N62q
      obtain ⟨_, _, ⟨T63, L63, k63, n63⟩, -, X63, ⟨Lc63, hQ63, l63, y63, z63⟩, st63⟩ := Jvm.LawKit.callS X62 hx (y := (⟨"com/example/naqsh/naqsh/mining/TransactionSetsFingerprintPinLaw", "unmix", "(J)J"⟩ : MethodName)) hown (mvT hZ (hw _ (List.mem_of_getElem? (i := 11) rfl))) (mvT hZ (hw _ (List.mem_of_getElem? (i := 12) rfl))) (mvT hZ (hw _ (List.mem_of_getElem? (i := 13) rfl))) (mvT hZ (hw _ (List.mem_of_getElem? (i := 14) rfl))) (by decide) (backOf (W := 0) (rm2 l Z a0 hw [] (own_mix ((((0 : Int64) + (q0 * (-7046029254386353131 : Int64))) + (q1 * (-7046029254386353129 : Int64))) + (q2 * (-7046029254386353127 : Int64)))) h53 n0 Z53) hZ (hw _ (List.mem_of_getElem? (i := 14) rfl)) (hw _ (List.mem_of_getElem? (i := 13) rfl)) (by decide) (by decide)) (g := (mkF m 186 #[.val (.long q0), .second, .val (.long q1), .second, .val (.long q2), .second, .val (.long q3), .second, .val (.long q4), .second, .val (.int p5), .val (.int 3), .val (.int 0), .val (.ref b23), .val (.long (-7046029254386353131)), .second, .val (.long ((((0 : Int64) + (q0 * (-7046029254386353131 : Int64))) + (q1 * (-7046029254386353129 : Int64))) + (q2 * (-7046029254386353127 : Int64)))), .second, .val (.long (own_mix ((((0 : Int64) + (q0 * (-7046029254386353131 : Int64))) + (q1 * (-7046029254386353129 : Int64))) + (q2 * (-7046029254386353127 : Int64))))), .second] [(.long (own_mix ((((0 : Int64) + (q0 * (-7046029254386353131 : Int64))) + (q1 * (-7046029254386353129 : Int64))) + (q2 * (-7046029254386353127 : Int64)))))])) rfl (by rw [hml]; rfl) (argsL := [(.long (own_mix ((((0 : Int64) + (q0 * (-7046029254386353131 : Int64))) + (q1 * (-7046029254386353129 : Int64))) + (q2 * (-7046029254386353127 : Int64)))))]) (rest := []) (lenOf pd_28J29J rfl) rfl (by show 2 * 0 + _ ≤ _; exact Nat.le_of_eq rfl) (hb hby at_186) (fun _ _ => ⟨rfl, e62, (by decide : 1 + 0 ≤ _), (by decide : 6 + 0 ≤ _)⟩)
      dsimp only [Pt.U, Pt.locs, Pt.cells, Pt.slots] at X63 l63 y63 z63 st63 hQ63
      subst l63 y63 z63
      obtain ⟨rfl, N63q, e63⟩ := hQ63
      have N63 := Fr.app N62 N63q
      obtain ⟨fs, hr, hrun, hended, hW, hsame⟩ := X63.leave (v := some (.int 1)) (fun h => by rw [Bd.returns] at h; cases h)
      refine ⟨_, _, pre0 _ ?_, hrun, hended, _, _, rfl, ?_, ⟨_, rfl⟩, hW, hsame.mono (by decide) (by decide)⟩
      · refine G55 _ ?_
        rw [hl]
        refine own_iload X53.here hx (hb hby at_100) rfl ?_
        refine own_ifNo X53.here hx (hb hby at_102) ((if0 _ _).trans (tlt (by decide : (0 : Int32) < (3 : Int32))).2.2.2) ?_
        refine own_lload X53.here hx (hb hby at_105) rfl ?_
        refine own_lloadN X53.here hx (hb hby at_107) rfl ?_
        refine own_lload X53.here hx (hb hby at_108) rfl ?_
        refine own_lmul X53.here hx (hb hby at_110) ?_
        refine own_ladd X53.here hx (hb hby at_111) ?_
        refine own_lstore X53.here hx (hb hby at_112) (l' := #[.val (.long q0), .second, .val (.long q1), .second, .val (.long q2), .second, .val (.long q3), .second, .val (.long q4), .second, .val (.int p5), .val (.int 3), .val (.int 0), .val (.ref b23), .val (.long (-7046029254386353131)), .second, .val (.long ((0 : Int64) + (q0 * (-7046029254386353131 : Int64)))), .second, .unset, .unset]) rfl ?_
        refine own_iload X53.here hx (hb hby at_114) rfl ?_
        refine own_iconst X53.here hx (1 : Int32) (hb hby at_116) rfl ?_
        refine own_icmpNo X53.here hx (hb hby at_117) (tlt (by decide : (1 : Int32) < (3 : Int32))).2.2.2 ?_
        refine own_lload X53.here hx (hb hby at_120) rfl ?_
        refine own_lloadN X53.here hx (hb hby at_122) rfl ?_
        refine own_lload X53.here hx (hb hby at_123) rfl ?_
        refine X53.ldc2Long hx hown (mvT hZ (hw _ (List.mem_of_getElem? (i := 2) rfl))) (g := (mkF m 125 #[.val (.long q0), .second, .val (.long q1), .second, .val (.long q2), .second, .val (.long q3), .second, .val (.long q4), .second, .val (.int p5), .val (.int 3), .val (.int 0), .val (.ref b23), .val (.long (-7046029254386353131)), .second, .val (.long ((0 : Int64) + (q0 * (-7046029254386353131 : Int64)))), .second, .unset, .unset] [(.long (-7046029254386353131)), (.long q1), (.long ((0 : Int64) + (q0 * (-7046029254386353131 : Int64))))])) rfl (hb hby at_125) _ ?_
        show Steps p.tables e below (T53.setTop (mkF m 128 #[.val (.long q0), .second, .val (.long q1), .second, .val (.long q2), .second, .val (.long q3), .second, .val (.long q4), .second, .val (.int p5), .val (.int 3), .val (.int 0), .val (.ref b23), .val (.long (-7046029254386353131)), .second, .val (.long ((0 : Int64) + (q0 * (-7046029254386353131 : Int64)))), .second, .unset, .unset] [(.long 2), (.long (-7046029254386353131)), (.long q1), (.long ((0 : Int64) + (q0 * (-7046029254386353131 : Int64))))])) _
        refine own_ladd X53.here hx (hb hby at_128) ?_
        show Steps p.tables e below (T53.setTop (mkF m 129 #[.val (.long q0), .second, .val (.long q1), .second, .val (.long q2), .second, .val (.long q3), .second, .val (.long q4), .second, .val (.int p5), .val (.int 3), .val (.int 0), .val (.ref b23), .val (.long (-7046029254386353131)), .second, .val (.long ((0 : Int64) + (q0 * (-7046029254386353131 : Int64)))), .second, .unset, .unset] [(.long (-7046029254386353129)), (.long q1), (.long ((0 : Int64) + (q0 * (-7046029254386353131 : Int64))))])) _
        refine own_lmul X53.here hx (hb hby at_129) ?_
        refine own_ladd X53.here hx (hb hby at_130) ?_
        refine own_lstore X53.here hx (hb hby at_131) (l' := #[.val (.long q0), .second, .val (.long q1), .second, .val (.long q2), .second, .val (.long q3), .second, .val (.long q4), .second, .val (.int p5), .val (.int 3), .val (.int 0), .val (.ref b23), .val (.long (-7046029254386353131)), .second, .val (.long (((0 : Int64) + (q0 * (-7046029254386353131 : Int64))) + (q1 * (-7046029254386353129 : Int64)))), .second, .unset, .unset]) rfl ?_
        refine own_iload X53.here hx (hb hby at_133) rfl ?_
        refine own_iconst X53.here hx (2 : Int32) (hb hby at_135) rfl ?_
        refine own_icmpNo X53.here hx (hb hby at_136) (tlt (by decide : (2 : Int32) < (3 : Int32))).2.2.2 ?_
        refine own_lload X53.here hx (hb hby at_139) rfl ?_
        refine own_lload X53.here hx (hb hby at_141) rfl ?_
        refine own_lload X53.here hx (hb hby at_143) rfl ?_
        refine X53.ldc2Long hx hown (mvT hZ (hw _ (List.mem_of_getElem? (i := 20) rfl))) (g := (mkF m 145 #[.val (.long q0), .second, .val (.long q1), .second, .val (.long q2), .second, .val (.long q3), .second, .val (.long q4), .second, .val (.int p5), .val (.int 3), .val (.int 0), .val (.ref b23), .val (.long (-7046029254386353131)), .second, .val (.long (((0 : Int64) + (q0 * (-7046029254386353131 : Int64))) + (q1 * (-7046029254386353129 : Int64)))), .second, .unset, .unset] [(.long (-7046029254386353131)), (.long q2), (.long (((0 : Int64) + (q0 * (-7046029254386353131 : Int64))) + (q1 * (-7046029254386353129 : Int64))))])) rfl (hb hby at_145) _ ?_
        show Steps p.tables e below (T53.setTop (mkF m 148 #[.val (.long q0), .second, .val (.long q1), .second, .val (.long q2), .second, .val (.long q3), .second, .val (.long q4), .second, .val (.int p5), .val (.int 3), .val (.int 0), .val (.ref b23), .val (.long (-7046029254386353131)), .second, .val (.long (((0 : Int64) + (q0 * (-7046029254386353131 : Int64))) + (q1 * (-7046029254386353129 : Int64)))), .second, .unset, .unset] [(.long 4), (.long (-7046029254386353131)), (.long q2), (.long (((0 : Int64) + (q0 * (-7046029254386353131 : Int64))) + (q1 * (-7046029254386353129 : Int64))))])) _
        refine own_ladd X53.here hx (hb hby at_148) ?_
        show Steps p.tables e below (T53.setTop (mkF m 149 #[.val (.long q0), .second, .val (.long q1), .second, .val (.long q2), .second, .val (.long q3), .second, .val (.long q4), .second, .val (.int p5), .val (.int 3), .val (.int 0), .val (.ref b23), .val (.long (-7046029254386353131)), .second, .val (.long (((0 : Int64) + (q0 * (-7046029254386353131 : Int64))) + (q1 * (-7046029254386353129 : Int64)))), .second, .unset, .unset] [(.long (-7046029254386353127)), (.long q2), (.long (((0 : Int64) + (q0 * (-7046029254386353131 : Int64))) + (q1 * (-7046029254386353129 : Int64))))])) _
        refine own_lmul X53.here hx (hb hby at_149) ?_
        refine own_ladd X53.here hx (hb hby at_150) ?_
        refine own_lstore X53.here hx (hb hby at_151) (l' := #[.val (.long q0), .second, .val (.long q1), .second, .val (.long q2), .second, .val (.long q3), .second, .val (.long q4), .second, .val (.int p5), .val (.int 3), .val (.int 0), .val (.ref b23), .val (.long (-7046029254386353131)), .second, .val (.long ((((0 : Int64) + (q0 * (-7046029254386353131 : Int64))) + (q1 * (-7046029254386353129 : Int64))) + (q2 * (-7046029254386353127 : Int64)))), .second, .unset, .unset]) rfl ?_
        refine own_iload X53.here hx (hb hby at_153) rfl ?_
        refine own_iconst X53.here hx (3 : Int32) (hb hby at_155) rfl ?_
        refine own_icmpYes X53.here hx 156 173 rfl (hb hby at_156) (flt (by decide : ¬ ((3 : Int32) < (3 : Int32)))).2.2.2 (by decide) (by decide) ?_
        refine own_aload X53.here hx (hb hby at_173) rfl rfl ?_
        refine own_iload X53.here hx (hb hby at_175) rfl ?_
        refine own_iload X53.here hx (hb hby at_177) rfl ?_
        refine st62 _ ?_
        show Steps p.tables e below (T62.setTop (mkF m 182 #[.val (.long q0), .second, .val (.long q1), .second, .val (.long q2), .second, .val (.long q3), .second, .val (.long q4), .second, .val (.int p5), .val (.int 3), .val (.int 0), .val (.ref b23), .val (.long (-7046029254386353131)), .second, .val (.long ((((0 : Int64) + (q0 * (-7046029254386353131 : Int64))) + (q1 * (-7046029254386353129 : Int64))) + (q2 * (-7046029254386353127 : Int64)))), .second, .unset, .unset] [(.long (own_mix ((((0 : Int64) + (q0 * (-7046029254386353131 : Int64))) + (q1 * (-7046029254386353129 : Int64))) + (q2 * (-7046029254386353127 : Int64)))))])) _
        refine own_lstore X62.here hx (hb hby at_182) (l' := #[.val (.long q0), .second, .val (.long q1), .second, .val (.long q2), .second, .val (.long q3), .second, .val (.long q4), .second, .val (.int p5), .val (.int 3), .val (.int 0), .val (.ref b23), .val (.long (-7046029254386353131)), .second, .val (.long ((((0 : Int64) + (q0 * (-7046029254386353131 : Int64))) + (q1 * (-7046029254386353129 : Int64))) + (q2 * (-7046029254386353127 : Int64)))), .second, .val (.long (own_mix ((((0 : Int64) + (q0 * (-7046029254386353131 : Int64))) + (q1 * (-7046029254386353129 : Int64))) + (q2 * (-7046029254386353127 : Int64))))), .second]) rfl ?_
        refine own_lload X62.here hx (hb hby at_184) rfl ?_
        refine st63 _ ?_
        show Steps p.tables e below (T63.setTop (mkF m 189 #[.val (.long q0), .second, .val (.long q1), .second, .val (.long q2), .second, .val (.long q3), .second, .val (.long q4), .second, .val (.int p5), .val (.int 3), .val (.int 0), .val (.ref b23), .val (.long (-7046029254386353131)), .second, .val (.long ((((0 : Int64) + (q0 * (-7046029254386353131 : Int64))) + (q1 * (-7046029254386353129 : Int64))) + (q2 * (-7046029254386353127 : Int64)))), .second, .val (.long (own_mix ((((0 : Int64) + (q0 * (-7046029254386353131 : Int64))) + (q1 * (-7046029254386353129 : Int64))) + (q2 * (-7046029254386353127 : Int64))))), .second] [(.long (own_un (own_mix ((((0 : Int64) + (q0 * (-7046029254386353131 : Int64))) + (q1 * (-7046029254386353129 : Int64))) + (q2 * (-7046029254386353127 : Int64))))))])) _
        refine own_lload X63.here hx (hb hby at_189) rfl ?_
        refine own_lcmp X63.here hx (hb hby at_191) ?_
        refine own_ifNo X63.here hx (hb hby at_192) ((if0 _ _).trans (teq ((lw_eq _ _).mpr (own_unmix _))).2) ?_
        refine own_iconst X63.here hx (1 : Int32) (hb hby at_195) rfl ?_
        refine own_goto X63.here hx 196 200 rfl (hb hby at_196) (by decide) (by decide) ?_
        exact retN X63 hx (t := .boolean) Bd.returns (by simp) (hb hby at_200) hr
      · show Q0 Z q0 q1 q2 q3 q4 p5 h0 n0 _ T63.heap _
        rw [e63]
        exact ⟨rfl, N63⟩
    · obtain ⟨_, _, ⟨T64, L64, k64, n64⟩, -, X64, ⟨Lc64, hQ64, l64, y64, z64⟩, st64⟩ := Jvm.LawKit.callS X53 hx (y := (⟨"com/example/naqsh/naqsh/mining/TransactionSets", "fingerprint", "([JII)J"⟩ : MethodName)) hown (mvT hZ (hw _ (List.mem_of_getElem? (i := 3) rfl))) (mvT hZ (hw _ (List.mem_of_getElem? (i := 4) rfl))) (mvT hZ (hw _ (List.mem_of_getElem? (i := 5) rfl))) (mvT hZ (hw _ (List.mem_of_getElem? (i := 6) rfl))) (by decide) (backOf (W := 0) (rmF_0_4 l Z a0 hw [] b23 k23 q0 q1 q2 q3 q4 q4 h53 n0 Z53 V53) hZ (hw _ (List.mem_of_getElem? (i := 6) rfl)) (hw _ (List.mem_of_getElem? (i := 5) rfl)) (by decide) (by decide)) (g := (mkF m 179 #[.val (.long q0), .second, .val (.long q1), .second, .val (.long q2), .second, .val (.long q3), .second, .val (.long q4), .second, .val (.int p5), .val (.int 4), .val (.int 0), .val (.ref b23), .val (.long (-7046029254386353131)), .second, .val (.long (((((0 : Int64) + (q0 * (-7046029254386353131 : Int64))) + (q1 * (-7046029254386353129 : Int64))) + (q2 * (-7046029254386353127 : Int64))) + (q3 * (-7046029254386353125 : Int64)))), .second, .unset, .unset] [(.int 4), (.int 0), (.ref b23)])) rfl (by rw [hml]; rfl) (argsL := [(.ref b23), (.int 0), (.int 4)]) (rest := []) (lenOf pd_285bJII29J rfl) rfl (by show 2 * 0 + _ ≤ _; exact Nat.le_of_eq rfl) (hb hby at_179) (fun _ _ => ⟨rfl, e53, (by decide : 1 + 0 ≤ _), (by decide : 6 + 0 ≤ _)⟩)
      dsimp only [Pt.U, Pt.locs, Pt.cells, Pt.slots] at X64 l64 y64 z64 st64 hQ64
      subst l64 y64 z64
      obtain ⟨rfl, N64q, e64⟩ := hQ64
      have N64 := Fr.app N53 N64q
      obtain ⟨_, _, ⟨T65, L65, k65, n65⟩, -, X65, ⟨Lc65, hQ65, l65, y65, z65⟩, st65⟩ := Jvm.LawKit.callS X64 hx (y := (⟨"com/example/naqsh/naqsh/mining/TransactionSetsFingerprintPinLaw", "unmix", "(J)J"⟩ : MethodName)) hown (mvT hZ (hw _ (List.mem_of_getElem? (i := 11) rfl))) (mvT hZ (hw _ (List.mem_of_getElem? (i := 12) rfl))) (mvT hZ (hw _ (List.mem_of_getElem? (i := 13) rfl))) (mvT hZ (hw _ (List.mem_of_getElem? (i := 14) rfl))) (by decide) (backOf (W := 0) (rm2 l Z a0 hw [] (own_mix (((((0 : Int64) + (q0 * (-7046029254386353131 : Int64))) + (q1 * (-7046029254386353129 : Int64))) + (q2 * (-7046029254386353127 : Int64))) + (q3 * (-7046029254386353125 : Int64)))) h53 n0 Z53) hZ (hw _ (List.mem_of_getElem? (i := 14) rfl)) (hw _ (List.mem_of_getElem? (i := 13) rfl)) (by decide) (by decide)) (g := (mkF m 186 #[.val (.long q0), .second, .val (.long q1), .second, .val (.long q2), .second, .val (.long q3), .second, .val (.long q4), .second, .val (.int p5), .val (.int 4), .val (.int 0), .val (.ref b23), .val (.long (-7046029254386353131)), .second, .val (.long (((((0 : Int64) + (q0 * (-7046029254386353131 : Int64))) + (q1 * (-7046029254386353129 : Int64))) + (q2 * (-7046029254386353127 : Int64))) + (q3 * (-7046029254386353125 : Int64)))), .second, .val (.long (own_mix (((((0 : Int64) + (q0 * (-7046029254386353131 : Int64))) + (q1 * (-7046029254386353129 : Int64))) + (q2 * (-7046029254386353127 : Int64))) + (q3 * (-7046029254386353125 : Int64))))), .second] [(.long (own_mix (((((0 : Int64) + (q0 * (-7046029254386353131 : Int64))) + (q1 * (-7046029254386353129 : Int64))) + (q2 * (-7046029254386353127 : Int64))) + (q3 * (-7046029254386353125 : Int64)))))])) rfl (by rw [hml]; rfl) (argsL := [(.long (own_mix (((((0 : Int64) + (q0 * (-7046029254386353131 : Int64))) + (q1 * (-7046029254386353129 : Int64))) + (q2 * (-7046029254386353127 : Int64))) + (q3 * (-7046029254386353125 : Int64)))))]) (rest := []) (lenOf pd_28J29J rfl) rfl (by show 2 * 0 + _ ≤ _; exact Nat.le_of_eq rfl) (hb hby at_186) (fun _ _ => ⟨rfl, e64, (by decide : 1 + 0 ≤ _), (by decide : 6 + 0 ≤ _)⟩)
      dsimp only [Pt.U, Pt.locs, Pt.cells, Pt.slots] at X65 l65 y65 z65 st65 hQ65
      subst l65 y65 z65
      obtain ⟨rfl, N65q, e65⟩ := hQ65
      have N65 := Fr.app N64 N65q
      obtain ⟨fs, hr, hrun, hended, hW, hsame⟩ := X65.leave (v := some (.int 1)) (fun h => by rw [Bd.returns] at h; cases h)
      refine ⟨_, _, pre0 _ ?_, hrun, hended, _, _, rfl, ?_, ⟨_, rfl⟩, hW, hsame.mono (by decide) (by decide)⟩
      · refine G55 _ ?_
        rw [hl]
        refine own_iload X53.here hx (hb hby at_100) rfl ?_
        refine own_ifNo X53.here hx (hb hby at_102) ((if0 _ _).trans (tlt (by decide : (0 : Int32) < (4 : Int32))).2.2.2) ?_
        refine own_lload X53.here hx (hb hby at_105) rfl ?_
        refine own_lloadN X53.here hx (hb hby at_107) rfl ?_
        refine own_lload X53.here hx (hb hby at_108) rfl ?_
        refine own_lmul X53.here hx (hb hby at_110) ?_
        refine own_ladd X53.here hx (hb hby at_111) ?_
        refine own_lstore X53.here hx (hb hby at_112) (l' := #[.val (.long q0), .second, .val (.long q1), .second, .val (.long q2), .second, .val (.long q3), .second, .val (.long q4), .second, .val (.int p5), .val (.int 4), .val (.int 0), .val (.ref b23), .val (.long (-7046029254386353131)), .second, .val (.long ((0 : Int64) + (q0 * (-7046029254386353131 : Int64)))), .second, .unset, .unset]) rfl ?_
        refine own_iload X53.here hx (hb hby at_114) rfl ?_
        refine own_iconst X53.here hx (1 : Int32) (hb hby at_116) rfl ?_
        refine own_icmpNo X53.here hx (hb hby at_117) (tlt (by decide : (1 : Int32) < (4 : Int32))).2.2.2 ?_
        refine own_lload X53.here hx (hb hby at_120) rfl ?_
        refine own_lloadN X53.here hx (hb hby at_122) rfl ?_
        refine own_lload X53.here hx (hb hby at_123) rfl ?_
        refine X53.ldc2Long hx hown (mvT hZ (hw _ (List.mem_of_getElem? (i := 2) rfl))) (g := (mkF m 125 #[.val (.long q0), .second, .val (.long q1), .second, .val (.long q2), .second, .val (.long q3), .second, .val (.long q4), .second, .val (.int p5), .val (.int 4), .val (.int 0), .val (.ref b23), .val (.long (-7046029254386353131)), .second, .val (.long ((0 : Int64) + (q0 * (-7046029254386353131 : Int64)))), .second, .unset, .unset] [(.long (-7046029254386353131)), (.long q1), (.long ((0 : Int64) + (q0 * (-7046029254386353131 : Int64))))])) rfl (hb hby at_125) _ ?_
        show Steps p.tables e below (T53.setTop (mkF m 128 #[.val (.long q0), .second, .val (.long q1), .second, .val (.long q2), .second, .val (.long q3), .second, .val (.long q4), .second, .val (.int p5), .val (.int 4), .val (.int 0), .val (.ref b23), .val (.long (-7046029254386353131)), .second, .val (.long ((0 : Int64) + (q0 * (-7046029254386353131 : Int64)))), .second, .unset, .unset] [(.long 2), (.long (-7046029254386353131)), (.long q1), (.long ((0 : Int64) + (q0 * (-7046029254386353131 : Int64))))])) _
        refine own_ladd X53.here hx (hb hby at_128) ?_
        show Steps p.tables e below (T53.setTop (mkF m 129 #[.val (.long q0), .second, .val (.long q1), .second, .val (.long q2), .second, .val (.long q3), .second, .val (.long q4), .second, .val (.int p5), .val (.int 4), .val (.int 0), .val (.ref b23), .val (.long (-7046029254386353131)), .second, .val (.long ((0 : Int64) + (q0 * (-7046029254386353131 : Int64)))), .second, .unset, .unset] [(.long (-7046029254386353129)), (.long q1), (.long ((0 : Int64) + (q0 * (-7046029254386353131 : Int64))))])) _
        refine own_lmul X53.here hx (hb hby at_129) ?_
        refine own_ladd X53.here hx (hb hby at_130) ?_
        refine own_lstore X53.here hx (hb hby at_131) (l' := #[.val (.long q0), .second, .val (.long q1), .second, .val (.long q2), .second, .val (.long q3), .second, .val (.long q4), .second, .val (.int p5), .val (.int 4), .val (.int 0), .val (.ref b23), .val (.long (-7046029254386353131)), .second, .val (.long (((0 : Int64) + (q0 * (-7046029254386353131 : Int64))) + (q1 * (-7046029254386353129 : Int64)))), .second, .unset, .unset]) rfl ?_
        refine own_iload X53.here hx (hb hby at_133) rfl ?_
        refine own_iconst X53.here hx (2 : Int32) (hb hby at_135) rfl ?_
        refine own_icmpNo X53.here hx (hb hby at_136) (tlt (by decide : (2 : Int32) < (4 : Int32))).2.2.2 ?_
        refine own_lload X53.here hx (hb hby at_139) rfl ?_
        refine own_lload X53.here hx (hb hby at_141) rfl ?_
        refine own_lload X53.here hx (hb hby at_143) rfl ?_
        refine X53.ldc2Long hx hown (mvT hZ (hw _ (List.mem_of_getElem? (i := 20) rfl))) (g := (mkF m 145 #[.val (.long q0), .second, .val (.long q1), .second, .val (.long q2), .second, .val (.long q3), .second, .val (.long q4), .second, .val (.int p5), .val (.int 4), .val (.int 0), .val (.ref b23), .val (.long (-7046029254386353131)), .second, .val (.long (((0 : Int64) + (q0 * (-7046029254386353131 : Int64))) + (q1 * (-7046029254386353129 : Int64)))), .second, .unset, .unset] [(.long (-7046029254386353131)), (.long q2), (.long (((0 : Int64) + (q0 * (-7046029254386353131 : Int64))) + (q1 * (-7046029254386353129 : Int64))))])) rfl (hb hby at_145) _ ?_
        show Steps p.tables e below (T53.setTop (mkF m 148 #[.val (.long q0), .second, .val (.long q1), .second, .val (.long q2), .second, .val (.long q3), .second, .val (.long q4), .second, .val (.int p5), .val (.int 4), .val (.int 0), .val (.ref b23), .val (.long (-7046029254386353131)), .second, .val (.long (((0 : Int64) + (q0 * (-7046029254386353131 : Int64))) + (q1 * (-7046029254386353129 : Int64)))), .second, .unset, .unset] [(.long 4), (.long (-7046029254386353131)), (.long q2), (.long (((0 : Int64) + (q0 * (-7046029254386353131 : Int64))) + (q1 * (-7046029254386353129 : Int64))))])) _
        refine own_ladd X53.here hx (hb hby at_148) ?_
        show Steps p.tables e below (T53.setTop (mkF m 149 #[.val (.long q0), .second, .val (.long q1), .second, .val (.long q2), .second, .val (.long q3), .second, .val (.long q4), .second, .val (.int p5), .val (.int 4), .val (.int 0), .val (.ref b23), .val (.long (-7046029254386353131)), .second, .val (.long (((0 : Int64) + (q0 * (-7046029254386353131 : Int64))) + (q1 * (-7046029254386353129 : Int64)))), .second, .unset, .unset] [(.long (-7046029254386353127)), (.long q2), (.long (((0 : Int64) + (q0 * (-7046029254386353131 : Int64))) + (q1 * (-7046029254386353129 : Int64))))])) _
        refine own_lmul X53.here hx (hb hby at_149) ?_
        refine own_ladd X53.here hx (hb hby at_150) ?_
        refine own_lstore X53.here hx (hb hby at_151) (l' := #[.val (.long q0), .second, .val (.long q1), .second, .val (.long q2), .second, .val (.long q3), .second, .val (.long q4), .second, .val (.int p5), .val (.int 4), .val (.int 0), .val (.ref b23), .val (.long (-7046029254386353131)), .second, .val (.long ((((0 : Int64) + (q0 * (-7046029254386353131 : Int64))) + (q1 * (-7046029254386353129 : Int64))) + (q2 * (-7046029254386353127 : Int64)))), .second, .unset, .unset]) rfl ?_
        refine own_iload X53.here hx (hb hby at_153) rfl ?_
        refine own_iconst X53.here hx (3 : Int32) (hb hby at_155) rfl ?_
        refine own_icmpNo X53.here hx (hb hby at_156) (tlt (by decide : (3 : Int32) < (4 : Int32))).2.2.2 ?_
        refine own_lload X53.here hx (hb hby at_159) rfl ?_
        refine own_lload X53.here hx (hb hby at_161) rfl ?_
        refine own_lload X53.here hx (hb hby at_163) rfl ?_
        refine X53.ldc2Long hx hown (mvT hZ (hw _ (List.mem_of_getElem? (i := 21) rfl))) (g := (mkF m 165 #[.val (.long q0), .second, .val (.long q1), .second, .val (.long q2), .second, .val (.long q3), .second, .val (.long q4), .second, .val (.int p5), .val (.int 4), .val (.int 0), .val (.ref b23), .val (.long (-7046029254386353131)), .second, .val (.long ((((0 : Int64) + (q0 * (-7046029254386353131 : Int64))) + (q1 * (-7046029254386353129 : Int64))) + (q2 * (-7046029254386353127 : Int64)))), .second, .unset, .unset] [(.long (-7046029254386353131)), (.long q3), (.long ((((0 : Int64) + (q0 * (-7046029254386353131 : Int64))) + (q1 * (-7046029254386353129 : Int64))) + (q2 * (-7046029254386353127 : Int64))))])) rfl (hb hby at_165) _ ?_
        show Steps p.tables e below (T53.setTop (mkF m 168 #[.val (.long q0), .second, .val (.long q1), .second, .val (.long q2), .second, .val (.long q3), .second, .val (.long q4), .second, .val (.int p5), .val (.int 4), .val (.int 0), .val (.ref b23), .val (.long (-7046029254386353131)), .second, .val (.long ((((0 : Int64) + (q0 * (-7046029254386353131 : Int64))) + (q1 * (-7046029254386353129 : Int64))) + (q2 * (-7046029254386353127 : Int64)))), .second, .unset, .unset] [(.long 6), (.long (-7046029254386353131)), (.long q3), (.long ((((0 : Int64) + (q0 * (-7046029254386353131 : Int64))) + (q1 * (-7046029254386353129 : Int64))) + (q2 * (-7046029254386353127 : Int64))))])) _
        refine own_ladd X53.here hx (hb hby at_168) ?_
        show Steps p.tables e below (T53.setTop (mkF m 169 #[.val (.long q0), .second, .val (.long q1), .second, .val (.long q2), .second, .val (.long q3), .second, .val (.long q4), .second, .val (.int p5), .val (.int 4), .val (.int 0), .val (.ref b23), .val (.long (-7046029254386353131)), .second, .val (.long ((((0 : Int64) + (q0 * (-7046029254386353131 : Int64))) + (q1 * (-7046029254386353129 : Int64))) + (q2 * (-7046029254386353127 : Int64)))), .second, .unset, .unset] [(.long (-7046029254386353125)), (.long q3), (.long ((((0 : Int64) + (q0 * (-7046029254386353131 : Int64))) + (q1 * (-7046029254386353129 : Int64))) + (q2 * (-7046029254386353127 : Int64))))])) _
        refine own_lmul X53.here hx (hb hby at_169) ?_
        refine own_ladd X53.here hx (hb hby at_170) ?_
        refine own_lstore X53.here hx (hb hby at_171) (l' := #[.val (.long q0), .second, .val (.long q1), .second, .val (.long q2), .second, .val (.long q3), .second, .val (.long q4), .second, .val (.int p5), .val (.int 4), .val (.int 0), .val (.ref b23), .val (.long (-7046029254386353131)), .second, .val (.long (((((0 : Int64) + (q0 * (-7046029254386353131 : Int64))) + (q1 * (-7046029254386353129 : Int64))) + (q2 * (-7046029254386353127 : Int64))) + (q3 * (-7046029254386353125 : Int64)))), .second, .unset, .unset]) rfl ?_
        refine own_aload X53.here hx (hb hby at_173) rfl rfl ?_
        refine own_iload X53.here hx (hb hby at_175) rfl ?_
        refine own_iload X53.here hx (hb hby at_177) rfl ?_
        refine st64 _ ?_
        show Steps p.tables e below (T64.setTop (mkF m 182 #[.val (.long q0), .second, .val (.long q1), .second, .val (.long q2), .second, .val (.long q3), .second, .val (.long q4), .second, .val (.int p5), .val (.int 4), .val (.int 0), .val (.ref b23), .val (.long (-7046029254386353131)), .second, .val (.long (((((0 : Int64) + (q0 * (-7046029254386353131 : Int64))) + (q1 * (-7046029254386353129 : Int64))) + (q2 * (-7046029254386353127 : Int64))) + (q3 * (-7046029254386353125 : Int64)))), .second, .unset, .unset] [(.long (own_mix (((((0 : Int64) + (q0 * (-7046029254386353131 : Int64))) + (q1 * (-7046029254386353129 : Int64))) + (q2 * (-7046029254386353127 : Int64))) + (q3 * (-7046029254386353125 : Int64)))))])) _
        refine own_lstore X64.here hx (hb hby at_182) (l' := #[.val (.long q0), .second, .val (.long q1), .second, .val (.long q2), .second, .val (.long q3), .second, .val (.long q4), .second, .val (.int p5), .val (.int 4), .val (.int 0), .val (.ref b23), .val (.long (-7046029254386353131)), .second, .val (.long (((((0 : Int64) + (q0 * (-7046029254386353131 : Int64))) + (q1 * (-7046029254386353129 : Int64))) + (q2 * (-7046029254386353127 : Int64))) + (q3 * (-7046029254386353125 : Int64)))), .second, .val (.long (own_mix (((((0 : Int64) + (q0 * (-7046029254386353131 : Int64))) + (q1 * (-7046029254386353129 : Int64))) + (q2 * (-7046029254386353127 : Int64))) + (q3 * (-7046029254386353125 : Int64))))), .second]) rfl ?_
        refine own_lload X64.here hx (hb hby at_184) rfl ?_
        refine st65 _ ?_
        show Steps p.tables e below (T65.setTop (mkF m 189 #[.val (.long q0), .second, .val (.long q1), .second, .val (.long q2), .second, .val (.long q3), .second, .val (.long q4), .second, .val (.int p5), .val (.int 4), .val (.int 0), .val (.ref b23), .val (.long (-7046029254386353131)), .second, .val (.long (((((0 : Int64) + (q0 * (-7046029254386353131 : Int64))) + (q1 * (-7046029254386353129 : Int64))) + (q2 * (-7046029254386353127 : Int64))) + (q3 * (-7046029254386353125 : Int64)))), .second, .val (.long (own_mix (((((0 : Int64) + (q0 * (-7046029254386353131 : Int64))) + (q1 * (-7046029254386353129 : Int64))) + (q2 * (-7046029254386353127 : Int64))) + (q3 * (-7046029254386353125 : Int64))))), .second] [(.long (own_un (own_mix (((((0 : Int64) + (q0 * (-7046029254386353131 : Int64))) + (q1 * (-7046029254386353129 : Int64))) + (q2 * (-7046029254386353127 : Int64))) + (q3 * (-7046029254386353125 : Int64))))))])) _
        refine own_lload X65.here hx (hb hby at_189) rfl ?_
        refine own_lcmp X65.here hx (hb hby at_191) ?_
        refine own_ifNo X65.here hx (hb hby at_192) ((if0 _ _).trans (teq ((lw_eq _ _).mpr (own_unmix _))).2) ?_
        refine own_iconst X65.here hx (1 : Int32) (hb hby at_195) rfl ?_
        refine own_goto X65.here hx 196 200 rfl (hb hby at_196) (by decide) (by decide) ?_
        exact retN X65 hx (t := .boolean) Bd.returns (by simp) (hb hby at_200) hr
      · show Q0 Z q0 q1 q2 q3 q4 p5 h0 n0 _ T65.heap _
        rw [e65]
        exact ⟨rfl, N65⟩
  · obtain ⟨cl66, Ar66, q66, S66, M66, H66, J66⟩ := id V40
    have hin66 : ¬ ((1 : Int32) < 0 ∨ cl66.slots.size ≤ ((1 : Int32)).toNatClampNeg) := inb_of S66 ⟨by decide, by decide⟩
    obtain ⟨T67, h67, X67, e67, W67, st67⟩ := stJ X40 hx hZ e40 Ar66 (j := (1 : Int32)) hin66 (g := (mkF m 65 #[.val (.long q0), .second, .val (.long q1), .second, .val (.long q2), .second, .val (.long q3), .second, .val (.long q4), .second, .val (.int p5), .val (.int (own_rem (p5 &&& (7 : Int32)) (5 : Int32))), .val (.int 1), .val (.ref b23), .unset, .unset, .unset, .unset, .unset, .unset] [(.long q0), (.int 1), (.ref b23)])) rfl rfl (hb hby at_65)
    have V67 : Arv Z h67 b23 k23 .long (6 : Int32) [(.long q4), (.long q0), (.long q4), (.long q4), (.long q4), (.long q4)] (.long 0) := Arv.set Ar66 q66 S66 M66 H66 J66 rfl W67 1 rfl (Nat.le_of_ble_eq_true rfl)
    have N67 := Fr.snoc X67 N40 gg23
    have Z67 : n0 ≤ h67.size := Nat.le_trans Z40 (Keep.of_wr W67).1
    obtain ⟨cl69, Ar69, q69, S69, M69, H69, J69⟩ := id V67
    have hin69 : ¬ ((2 : Int32) < 0 ∨ cl69.slots.size ≤ ((2 : Int32)).toNatClampNeg) := inb_of S69 ⟨by decide, by decide⟩
    obtain ⟨T70, h70, X70, e70, W70, st70⟩ := stJ X67 hx hZ e67 Ar69 (j := (2 : Int32)) hin69 (g := (mkF m 73 #[.val (.long q0), .second, .val (.long q1), .second, .val (.long q2), .second, .val (.long q3), .second, .val (.long q4), .second, .val (.int p5), .val (.int (own_rem (p5 &&& (7 : Int32)) (5 : Int32))), .val (.int 1), .val (.ref b23), .unset, .unset, .unset, .unset, .unset, .unset] [(.long q1), (.int 2), (.ref b23)])) rfl rfl (hb hby at_73)
    have V70 : Arv Z h70 b23 k23 .long (6 : Int32) [(.long q4), (.long q0), (.long q1), (.long q4), (.long q4), (.long q4)] (.long 0) := Arv.set Ar69 q69 S69 M69 H69 J69 rfl W70 2 rfl (Nat.le_of_ble_eq_true rfl)
    have N70 := Fr.snoc X70 N67 gg23
    have Z70 : n0 ≤ h70.size := Nat.le_trans Z67 (Keep.of_wr W70).1
    obtain ⟨cl72, Ar72, q72, S72, M72, H72, J72⟩ := id V70
    have hin72 : ¬ ((3 : Int32) < 0 ∨ cl72.slots.size ≤ ((3 : Int32)).toNatClampNeg) := inb_of S72 ⟨by decide, by decide⟩
    obtain ⟨T73, h73, X73, e73, W73, st73⟩ := stJ X70 hx hZ e70 Ar72 (j := (3 : Int32)) hin72 (g := (mkF m 82 #[.val (.long q0), .second, .val (.long q1), .second, .val (.long q2), .second, .val (.long q3), .second, .val (.long q4), .second, .val (.int p5), .val (.int (own_rem (p5 &&& (7 : Int32)) (5 : Int32))), .val (.int 1), .val (.ref b23), .unset, .unset, .unset, .unset, .unset, .unset] [(.long q2), (.int 3), (.ref b23)])) rfl rfl (hb hby at_82)
    have V73 : Arv Z h73 b23 k23 .long (6 : Int32) [(.long q4), (.long q0), (.long q1), (.long q2), (.long q4), (.long q4)] (.long 0) := Arv.set Ar72 q72 S72 M72 H72 J72 rfl W73 3 rfl (Nat.le_of_ble_eq_true rfl)
    have N73 := Fr.snoc X73 N70 gg23
    have Z73 : n0 ≤ h73.size := Nat.le_trans Z70 (Keep.of_wr W73).1
    obtain ⟨cl75, Ar75, q75, S75, M75, H75, J75⟩ := id V73
    have hin75 : ¬ ((4 : Int32) < 0 ∨ cl75.slots.size ≤ ((4 : Int32)).toNatClampNeg) := inb_of S75 ⟨by decide, by decide⟩
    obtain ⟨T76, h76, X76, e76, W76, st76⟩ := stJ X73 hx hZ e73 Ar75 (j := (4 : Int32)) hin75 (g := (mkF m 91 #[.val (.long q0), .second, .val (.long q1), .second, .val (.long q2), .second, .val (.long q3), .second, .val (.long q4), .second, .val (.int p5), .val (.int (own_rem (p5 &&& (7 : Int32)) (5 : Int32))), .val (.int 1), .val (.ref b23), .unset, .unset, .unset, .unset, .unset, .unset] [(.long q3), (.int 4), (.ref b23)])) rfl rfl (hb hby at_91)
    have V76 : Arv Z h76 b23 k23 .long (6 : Int32) [(.long q4), (.long q0), (.long q1), (.long q2), (.long q3), (.long q4)] (.long 0) := Arv.set Ar75 q75 S75 M75 H75 J75 rfl W76 4 rfl (Nat.le_of_ble_eq_true rfl)
    have N76 := Fr.snoc X76 N73 gg23
    have Z76 : n0 ≤ h76.size := Nat.le_trans Z73 (Keep.of_wr W76).1
    have G78 : ∀ tG, Steps p.tables e below (T76.setTop (mkF m 100 #[.val (.long q0), .second, .val (.long q1), .second, .val (.long q2), .second, .val (.long q3), .second, .val (.long q4), .second, .val (.int p5), .val (.int (own_rem (p5 &&& (7 : Int32)) (5 : Int32))), .val (.int 1), .val (.ref b23), .val (.long (-7046029254386353131)), .second, .val (.long 0), .second, .unset, .unset] [])) tG → Steps p.tables e below (s₁.setTop (mkF m 0 #[.val (.long q0), .second, .val (.long q1), .second, .val (.long q2), .second, .val (.long q3), .second, .val (.long q4), .second, .val (.int p5), .unset, .unset, .unset, .unset, .unset, .unset, .unset, .unset, .unset] [])) tG := by
      intro tG kG
      refine G42 _ ?_
      rw [ho]
      refine own_aload X40.here hx (hb hby at_60) rfl rfl ?_
      refine own_iload X40.here hx (hb hby at_62) rfl ?_
      refine own_lloadN X40.here hx (hb hby at_64) rfl ?_
      refine st67 _ ?_
      show Steps p.tables e below (T67.setTop (mkF m 66 #[.val (.long q0), .second, .val (.long q1), .second, .val (.long q2), .second, .val (.long q3), .second, .val (.long q4), .second, .val (.int p5), .val (.int (own_rem (p5 &&& (7 : Int32)) (5 : Int32))), .val (.int 1), .val (.ref b23), .unset, .unset, .unset, .unset, .unset, .unset] [])) _
      refine own_aload X67.here hx (hb hby at_66) rfl rfl ?_
      refine own_iload X67.here hx (hb hby at_68) rfl ?_
      refine own_iconst X67.here hx (1 : Int32) (hb hby at_70) rfl ?_
      refine own_iadd X67.here hx (hb hby at_71) ?_
      show Steps p.tables e below (T67.setTop (mkF m 72 #[.val (.long q0), .second, .val (.long q1), .second, .val (.long q2), .second, .val (.long q3), .second, .val (.long q4), .second, .val (.int p5), .val (.int (own_rem (p5 &&& (7 : Int32)) (5 : Int32))), .val (.int 1), .val (.ref b23), .unset, .unset, .unset, .unset, .unset, .unset] [(.int 2), (.ref b23)])) _
      refine own_lloadN X67.here hx (hb hby at_72) rfl ?_
      refine st70 _ ?_
      show Steps p.tables e below (T70.setTop (mkF m 74 #[.val (.long q0), .second, .val (.long q1), .second, .val (.long q2), .second, .val (.long q3), .second, .val (.long q4), .second, .val (.int p5), .val (.int (own_rem (p5 &&& (7 : Int32)) (5 : Int32))), .val (.int 1), .val (.ref b23), .unset, .unset, .unset, .unset, .unset, .unset] [])) _
      refine own_aload X70.here hx (hb hby at_74) rfl rfl ?_
      refine own_iload X70.here hx (hb hby at_76) rfl ?_
      refine own_iconst X70.here hx (2 : Int32) (hb hby at_78) rfl ?_
      refine own_iadd X70.here hx (hb hby at_79) ?_
      show Steps p.tables e below (T70.setTop (mkF m 80 #[.val (.long q0), .second, .val (.long q1), .second, .val (.long q2), .second, .val (.long q3), .second, .val (.long q4), .second, .val (.int p5), .val (.int (own_rem (p5 &&& (7 : Int32)) (5 : Int32))), .val (.int 1), .val (.ref b23), .unset, .unset, .unset, .unset, .unset, .unset] [(.int 3), (.ref b23)])) _
      refine own_lload X70.here hx (hb hby at_80) rfl ?_
      refine st73 _ ?_
      show Steps p.tables e below (T73.setTop (mkF m 83 #[.val (.long q0), .second, .val (.long q1), .second, .val (.long q2), .second, .val (.long q3), .second, .val (.long q4), .second, .val (.int p5), .val (.int (own_rem (p5 &&& (7 : Int32)) (5 : Int32))), .val (.int 1), .val (.ref b23), .unset, .unset, .unset, .unset, .unset, .unset] [])) _
      refine own_aload X73.here hx (hb hby at_83) rfl rfl ?_
      refine own_iload X73.here hx (hb hby at_85) rfl ?_
      refine own_iconst X73.here hx (3 : Int32) (hb hby at_87) rfl ?_
      refine own_iadd X73.here hx (hb hby at_88) ?_
      show Steps p.tables e below (T73.setTop (mkF m 89 #[.val (.long q0), .second, .val (.long q1), .second, .val (.long q2), .second, .val (.long q3), .second, .val (.long q4), .second, .val (.int p5), .val (.int (own_rem (p5 &&& (7 : Int32)) (5 : Int32))), .val (.int 1), .val (.ref b23), .unset, .unset, .unset, .unset, .unset, .unset] [(.int 4), (.ref b23)])) _
      refine own_lload X73.here hx (hb hby at_89) rfl ?_
      refine st76 _ ?_
      show Steps p.tables e below (T76.setTop (mkF m 92 #[.val (.long q0), .second, .val (.long q1), .second, .val (.long q2), .second, .val (.long q3), .second, .val (.long q4), .second, .val (.int p5), .val (.int (own_rem (p5 &&& (7 : Int32)) (5 : Int32))), .val (.int 1), .val (.ref b23), .unset, .unset, .unset, .unset, .unset, .unset] [])) _
      refine X76.ldc2Long hx hown (mvT hZ (hw _ (List.mem_of_getElem? (i := 1) rfl))) (g := (mkF m 92 #[.val (.long q0), .second, .val (.long q1), .second, .val (.long q2), .second, .val (.long q3), .second, .val (.long q4), .second, .val (.int p5), .val (.int (own_rem (p5 &&& (7 : Int32)) (5 : Int32))), .val (.int 1), .val (.ref b23), .unset, .unset, .unset, .unset, .unset, .unset] [])) rfl (hb hby at_92) _ ?_
      show Steps p.tables e below (T76.setTop (mkF m 95 #[.val (.long q0), .second, .val (.long q1), .second, .val (.long q2), .second, .val (.long q3), .second, .val (.long q4), .second, .val (.int p5), .val (.int (own_rem (p5 &&& (7 : Int32)) (5 : Int32))), .val (.int 1), .val (.ref b23), .unset, .unset, .unset, .unset, .unset, .unset] [(.long (-7046029254386353131))])) _
      refine own_lstore X76.here hx (hb hby at_95) (l' := #[.val (.long q0), .second, .val (.long q1), .second, .val (.long q2), .second, .val (.long q3), .second, .val (.long q4), .second, .val (.int p5), .val (.int (own_rem (p5 &&& (7 : Int32)) (5 : Int32))), .val (.int 1), .val (.ref b23), .val (.long (-7046029254386353131)), .second, .unset, .unset, .unset, .unset]) rfl ?_
      refine own_lconst0 X76.here hx (hb hby at_97) ?_
      refine own_lstore X76.here hx (hb hby at_98) (l' := #[.val (.long q0), .second, .val (.long q1), .second, .val (.long q2), .second, .val (.long q3), .second, .val (.long q4), .second, .val (.int p5), .val (.int (own_rem (p5 &&& (7 : Int32)) (5 : Int32))), .val (.int 1), .val (.ref b23), .val (.long (-7046029254386353131)), .second, .val (.long 0), .second, .unset, .unset]) rfl ?_
      exact kG
    rcases own_l5 p5 with hl | hl | hl | hl | hl
    · obtain ⟨_, _, ⟨T79, L79, k79, n79⟩, -, X79, ⟨Lc79, hQ79, l79, y79, z79⟩, st79⟩ := Jvm.LawKit.callS X76 hx (y := (⟨"com/example/naqsh/naqsh/mining/TransactionSets", "fingerprint", "([JII)J"⟩ : MethodName)) hown (mvT hZ (hw _ (List.mem_of_getElem? (i := 3) rfl))) (mvT hZ (hw _ (List.mem_of_getElem? (i := 4) rfl))) (mvT hZ (hw _ (List.mem_of_getElem? (i := 5) rfl))) (mvT hZ (hw _ (List.mem_of_getElem? (i := 6) rfl))) (by decide) (backOf (W := 0) (rmF_1_0 l Z a0 hw [] b23 k23 q4 q0 q1 q2 q3 q4 h76 n0 Z76 V76) hZ (hw _ (List.mem_of_getElem? (i := 6) rfl)) (hw _ (List.mem_of_getElem? (i := 5) rfl)) (by decide) (by decide)) (g := (mkF m 179 #[.val (.long q0), .second, .val (.long q1), .second, .val (.long q2), .second, .val (.long q3), .second, .val (.long q4), .second, .val (.int p5), .val (.int 0), .val (.int 1), .val (.ref b23), .val (.long (-7046029254386353131)), .second, .val (.long 0), .second, .unset, .unset] [(.int 0), (.int 1), (.ref b23)])) rfl (by rw [hml]; rfl) (argsL := [(.ref b23), (.int 1), (.int 0)]) (rest := []) (lenOf pd_285bJII29J rfl) rfl (by show 2 * 0 + _ ≤ _; exact Nat.le_of_eq rfl) (hb hby at_179) (fun _ _ => ⟨rfl, e76, (by decide : 1 + 0 ≤ _), (by decide : 6 + 0 ≤ _)⟩)
      dsimp only [Pt.U, Pt.locs, Pt.cells, Pt.slots] at X79 l79 y79 z79 st79 hQ79
      subst l79 y79 z79
      obtain ⟨rfl, N79q, e79⟩ := hQ79
      have N79 := Fr.app N76 N79q
      obtain ⟨_, _, ⟨T80, L80, k80, n80⟩, -, X80, ⟨Lc80, hQ80, l80, y80, z80⟩, st80⟩ := Jvm.LawKit.callS X79 hx (y := (⟨"com/example/naqsh/naqsh/mining/TransactionSetsFingerprintPinLaw", "unmix", "(J)J"⟩ : MethodName)) hown (mvT hZ (hw _ (List.mem_of_getElem? (i := 11) rfl))) (mvT hZ (hw _ (List.mem_of_getElem? (i := 12) rfl))) (mvT hZ (hw _ (List.mem_of_getElem? (i := 13) rfl))) (mvT hZ (hw _ (List.mem_of_getElem? (i := 14) rfl))) (by decide) (backOf (W := 0) (rm2 l Z a0 hw [] (own_mix (0 : Int64)) h76 n0 Z76) hZ (hw _ (List.mem_of_getElem? (i := 14) rfl)) (hw _ (List.mem_of_getElem? (i := 13) rfl)) (by decide) (by decide)) (g := (mkF m 186 #[.val (.long q0), .second, .val (.long q1), .second, .val (.long q2), .second, .val (.long q3), .second, .val (.long q4), .second, .val (.int p5), .val (.int 0), .val (.int 1), .val (.ref b23), .val (.long (-7046029254386353131)), .second, .val (.long 0), .second, .val (.long (own_mix (0 : Int64))), .second] [(.long (own_mix (0 : Int64)))])) rfl (by rw [hml]; rfl) (argsL := [(.long (own_mix (0 : Int64)))]) (rest := []) (lenOf pd_28J29J rfl) rfl (by show 2 * 0 + _ ≤ _; exact Nat.le_of_eq rfl) (hb hby at_186) (fun _ _ => ⟨rfl, e79, (by decide : 1 + 0 ≤ _), (by decide : 6 + 0 ≤ _)⟩)
      dsimp only [Pt.U, Pt.locs, Pt.cells, Pt.slots] at X80 l80 y80 z80 st80 hQ80
      subst l80 y80 z80
      obtain ⟨rfl, N80q, e80⟩ := hQ80
      have N80 := Fr.app N79 N80q
      obtain ⟨fs, hr, hrun, hended, hW, hsame⟩ := X80.leave (v := some (.int 1)) (fun h => by rw [Bd.returns] at h; cases h)
      refine ⟨_, _, pre0 _ ?_, hrun, hended, _, _, rfl, ?_, ⟨_, rfl⟩, hW, hsame.mono (by decide) (by decide)⟩
      · refine G78 _ ?_
        rw [hl]
        refine own_iload X76.here hx (hb hby at_100) rfl ?_
        refine own_ifYes X76.here hx 102 114 rfl (hb hby at_102) ((if0 _ _).trans (flt (by decide : ¬ ((0 : Int32) < (0 : Int32)))).2.2.2) (by decide) (by decide) ?_
        refine own_iload X76.here hx (hb hby at_114) rfl ?_
        refine own_iconst X76.here hx (1 : Int32) (hb hby at_116) rfl ?_
        refine own_icmpYes X76.here hx 117 133 rfl (hb hby at_117) (flt (by decide : ¬ ((1 : Int32) < (0 : Int32)))).2.2.2 (by decide) (by decide) ?_
        refine own_iload X76.here hx (hb hby at_133) rfl ?_
        refine own_iconst X76.here hx (2 : Int32) (hb hby at_135) rfl ?_
        refine own_icmpYes X76.here hx 136 153 rfl (hb hby at_136) (flt (by decide : ¬ ((2 : Int32) < (0 : Int32)))).2.2.2 (by decide) (by decide) ?_
        refine own_iload X76.here hx (hb hby at_153) rfl ?_
        refine own_iconst X76.here hx (3 : Int32) (hb hby at_155) rfl ?_
        refine own_icmpYes X76.here hx 156 173 rfl (hb hby at_156) (flt (by decide : ¬ ((3 : Int32) < (0 : Int32)))).2.2.2 (by decide) (by decide) ?_
        refine own_aload X76.here hx (hb hby at_173) rfl rfl ?_
        refine own_iload X76.here hx (hb hby at_175) rfl ?_
        refine own_iload X76.here hx (hb hby at_177) rfl ?_
        refine st79 _ ?_
        show Steps p.tables e below (T79.setTop (mkF m 182 #[.val (.long q0), .second, .val (.long q1), .second, .val (.long q2), .second, .val (.long q3), .second, .val (.long q4), .second, .val (.int p5), .val (.int 0), .val (.int 1), .val (.ref b23), .val (.long (-7046029254386353131)), .second, .val (.long 0), .second, .unset, .unset] [(.long (own_mix (0 : Int64)))])) _
        refine own_lstore X79.here hx (hb hby at_182) (l' := #[.val (.long q0), .second, .val (.long q1), .second, .val (.long q2), .second, .val (.long q3), .second, .val (.long q4), .second, .val (.int p5), .val (.int 0), .val (.int 1), .val (.ref b23), .val (.long (-7046029254386353131)), .second, .val (.long 0), .second, .val (.long (own_mix (0 : Int64))), .second]) rfl ?_
        refine own_lload X79.here hx (hb hby at_184) rfl ?_
        refine st80 _ ?_
        show Steps p.tables e below (T80.setTop (mkF m 189 #[.val (.long q0), .second, .val (.long q1), .second, .val (.long q2), .second, .val (.long q3), .second, .val (.long q4), .second, .val (.int p5), .val (.int 0), .val (.int 1), .val (.ref b23), .val (.long (-7046029254386353131)), .second, .val (.long 0), .second, .val (.long (own_mix (0 : Int64))), .second] [(.long (own_un (own_mix (0 : Int64))))])) _
        refine own_lload X80.here hx (hb hby at_189) rfl ?_
        refine own_lcmp X80.here hx (hb hby at_191) ?_
        refine own_ifNo X80.here hx (hb hby at_192) ((if0 _ _).trans (teq ((lw_eq _ _).mpr (own_unmix _))).2) ?_
        refine own_iconst X80.here hx (1 : Int32) (hb hby at_195) rfl ?_
        refine own_goto X80.here hx 196 200 rfl (hb hby at_196) (by decide) (by decide) ?_
        exact retN X80 hx (t := .boolean) Bd.returns (by simp) (hb hby at_200) hr
      · show Q0 Z q0 q1 q2 q3 q4 p5 h0 n0 _ T80.heap _
        rw [e80]
        exact ⟨rfl, N80⟩
    · obtain ⟨_, _, ⟨T81, L81, k81, n81⟩, -, X81, ⟨Lc81, hQ81, l81, y81, z81⟩, st81⟩ := Jvm.LawKit.callS X76 hx (y := (⟨"com/example/naqsh/naqsh/mining/TransactionSets", "fingerprint", "([JII)J"⟩ : MethodName)) hown (mvT hZ (hw _ (List.mem_of_getElem? (i := 3) rfl))) (mvT hZ (hw _ (List.mem_of_getElem? (i := 4) rfl))) (mvT hZ (hw _ (List.mem_of_getElem? (i := 5) rfl))) (mvT hZ (hw _ (List.mem_of_getElem? (i := 6) rfl))) (by decide) (backOf (W := 0) (rmF_1_1 l Z a0 hw [] b23 k23 q4 q0 q1 q2 q3 q4 h76 n0 Z76 V76) hZ (hw _ (List.mem_of_getElem? (i := 6) rfl)) (hw _ (List.mem_of_getElem? (i := 5) rfl)) (by decide) (by decide)) (g := (mkF m 179 #[.val (.long q0), .second, .val (.long q1), .second, .val (.long q2), .second, .val (.long q3), .second, .val (.long q4), .second, .val (.int p5), .val (.int 1), .val (.int 1), .val (.ref b23), .val (.long (-7046029254386353131)), .second, .val (.long ((0 : Int64) + (q0 * (-7046029254386353131 : Int64)))), .second, .unset, .unset] [(.int 1), (.int 1), (.ref b23)])) rfl (by rw [hml]; rfl) (argsL := [(.ref b23), (.int 1), (.int 1)]) (rest := []) (lenOf pd_285bJII29J rfl) rfl (by show 2 * 0 + _ ≤ _; exact Nat.le_of_eq rfl) (hb hby at_179) (fun _ _ => ⟨rfl, e76, (by decide : 1 + 0 ≤ _), (by decide : 6 + 0 ≤ _)⟩)
      dsimp only [Pt.U, Pt.locs, Pt.cells, Pt.slots] at X81 l81 y81 z81 st81 hQ81
      subst l81 y81 z81
      obtain ⟨rfl, N81q, e81⟩ := hQ81
      have N81 := Fr.app N76 N81q
      obtain ⟨_, _, ⟨T82, L82, k82, n82⟩, -, X82, ⟨Lc82, hQ82, l82, y82, z82⟩, st82⟩ := Jvm.LawKit.callS X81 hx (y := (⟨"com/example/naqsh/naqsh/mining/TransactionSetsFingerprintPinLaw", "unmix", "(J)J"⟩ : MethodName)) hown (mvT hZ (hw _ (List.mem_of_getElem? (i := 11) rfl))) (mvT hZ (hw _ (List.mem_of_getElem? (i := 12) rfl))) (mvT hZ (hw _ (List.mem_of_getElem? (i := 13) rfl))) (mvT hZ (hw _ (List.mem_of_getElem? (i := 14) rfl))) (by decide) (backOf (W := 0) (rm2 l Z a0 hw [] (own_mix ((0 : Int64) + (q0 * (-7046029254386353131 : Int64)))) h76 n0 Z76) hZ (hw _ (List.mem_of_getElem? (i := 14) rfl)) (hw _ (List.mem_of_getElem? (i := 13) rfl)) (by decide) (by decide)) (g := (mkF m 186 #[.val (.long q0), .second, .val (.long q1), .second, .val (.long q2), .second, .val (.long q3), .second, .val (.long q4), .second, .val (.int p5), .val (.int 1), .val (.int 1), .val (.ref b23), .val (.long (-7046029254386353131)), .second, .val (.long ((0 : Int64) + (q0 * (-7046029254386353131 : Int64)))), .second, .val (.long (own_mix ((0 : Int64) + (q0 * (-7046029254386353131 : Int64))))), .second] [(.long (own_mix ((0 : Int64) + (q0 * (-7046029254386353131 : Int64)))))])) rfl (by rw [hml]; rfl) (argsL := [(.long (own_mix ((0 : Int64) + (q0 * (-7046029254386353131 : Int64)))))]) (rest := []) (lenOf pd_28J29J rfl) rfl (by show 2 * 0 + _ ≤ _; exact Nat.le_of_eq rfl) (hb hby at_186) (fun _ _ => ⟨rfl, e81, (by decide : 1 + 0 ≤ _), (by decide : 6 + 0 ≤ _)⟩)
      dsimp only [Pt.U, Pt.locs, Pt.cells, Pt.slots] at X82 l82 y82 z82 st82 hQ82
      subst l82 y82 z82
      obtain ⟨rfl, N82q, e82⟩ := hQ82
      have N82 := Fr.app N81 N82q
      obtain ⟨fs, hr, hrun, hended, hW, hsame⟩ := X82.leave (v := some (.int 1)) (fun h => by rw [Bd.returns] at h; cases h)
      refine ⟨_, _, pre0 _ ?_, hrun, hended, _, _, rfl, ?_, ⟨_, rfl⟩, hW, hsame.mono (by decide) (by decide)⟩
      · refine G78 _ ?_
        rw [hl]
        refine own_iload X76.here hx (hb hby at_100) rfl ?_
        refine own_ifNo X76.here hx (hb hby at_102) ((if0 _ _).trans (tlt (by decide : (0 : Int32) < (1 : Int32))).2.2.2) ?_
        refine own_lload X76.here hx (hb hby at_105) rfl ?_
        refine own_lloadN X76.here hx (hb hby at_107) rfl ?_
        refine own_lload X76.here hx (hb hby at_108) rfl ?_
        refine own_lmul X76.here hx (hb hby at_110) ?_
        refine own_ladd X76.here hx (hb hby at_111) ?_
        refine own_lstore X76.here hx (hb hby at_112) (l' := #[.val (.long q0), .second, .val (.long q1), .second, .val (.long q2), .second, .val (.long q3), .second, .val (.long q4), .second, .val (.int p5), .val (.int 1), .val (.int 1), .val (.ref b23), .val (.long (-7046029254386353131)), .second, .val (.long ((0 : Int64) + (q0 * (-7046029254386353131 : Int64)))), .second, .unset, .unset]) rfl ?_
        refine own_iload X76.here hx (hb hby at_114) rfl ?_
        refine own_iconst X76.here hx (1 : Int32) (hb hby at_116) rfl ?_
        refine own_icmpYes X76.here hx 117 133 rfl (hb hby at_117) (flt (by decide : ¬ ((1 : Int32) < (1 : Int32)))).2.2.2 (by decide) (by decide) ?_
        refine own_iload X76.here hx (hb hby at_133) rfl ?_
        refine own_iconst X76.here hx (2 : Int32) (hb hby at_135) rfl ?_
        refine own_icmpYes X76.here hx 136 153 rfl (hb hby at_136) (flt (by decide : ¬ ((2 : Int32) < (1 : Int32)))).2.2.2 (by decide) (by decide) ?_
        refine own_iload X76.here hx (hb hby at_153) rfl ?_
        refine own_iconst X76.here hx (3 : Int32) (hb hby at_155) rfl ?_
        refine own_icmpYes X76.here hx 156 173 rfl (hb hby at_156) (flt (by decide : ¬ ((3 : Int32) < (1 : Int32)))).2.2.2 (by decide) (by decide) ?_
        refine own_aload X76.here hx (hb hby at_173) rfl rfl ?_
        refine own_iload X76.here hx (hb hby at_175) rfl ?_
        refine own_iload X76.here hx (hb hby at_177) rfl ?_
        refine st81 _ ?_
        show Steps p.tables e below (T81.setTop (mkF m 182 #[.val (.long q0), .second, .val (.long q1), .second, .val (.long q2), .second, .val (.long q3), .second, .val (.long q4), .second, .val (.int p5), .val (.int 1), .val (.int 1), .val (.ref b23), .val (.long (-7046029254386353131)), .second, .val (.long ((0 : Int64) + (q0 * (-7046029254386353131 : Int64)))), .second, .unset, .unset] [(.long (own_mix ((0 : Int64) + (q0 * (-7046029254386353131 : Int64)))))])) _
        refine own_lstore X81.here hx (hb hby at_182) (l' := #[.val (.long q0), .second, .val (.long q1), .second, .val (.long q2), .second, .val (.long q3), .second, .val (.long q4), .second, .val (.int p5), .val (.int 1), .val (.int 1), .val (.ref b23), .val (.long (-7046029254386353131)), .second, .val (.long ((0 : Int64) + (q0 * (-7046029254386353131 : Int64)))), .second, .val (.long (own_mix ((0 : Int64) + (q0 * (-7046029254386353131 : Int64))))), .second]) rfl ?_
        refine own_lload X81.here hx (hb hby at_184) rfl ?_
        refine st82 _ ?_
        show Steps p.tables e below (T82.setTop (mkF m 189 #[.val (.long q0), .second, .val (.long q1), .second, .val (.long q2), .second, .val (.long q3), .second, .val (.long q4), .second, .val (.int p5), .val (.int 1), .val (.int 1), .val (.ref b23), .val (.long (-7046029254386353131)), .second, .val (.long ((0 : Int64) + (q0 * (-7046029254386353131 : Int64)))), .second, .val (.long (own_mix ((0 : Int64) + (q0 * (-7046029254386353131 : Int64))))), .second] [(.long (own_un (own_mix ((0 : Int64) + (q0 * (-7046029254386353131 : Int64))))))])) _
        refine own_lload X82.here hx (hb hby at_189) rfl ?_
        refine own_lcmp X82.here hx (hb hby at_191) ?_
        refine own_ifNo X82.here hx (hb hby at_192) ((if0 _ _).trans (teq ((lw_eq _ _).mpr (own_unmix _))).2) ?_
        refine own_iconst X82.here hx (1 : Int32) (hb hby at_195) rfl ?_
        refine own_goto X82.here hx 196 200 rfl (hb hby at_196) (by decide) (by decide) ?_
        exact retN X82 hx (t := .boolean) Bd.returns (by simp) (hb hby at_200) hr
      · show Q0 Z q0 q1 q2 q3 q4 p5 h0 n0 _ T82.heap _
        rw [e82]
        exact ⟨rfl, N82⟩
    · obtain ⟨_, _, ⟨T83, L83, k83, n83⟩, -, X83, ⟨Lc83, hQ83, l83, y83, z83⟩, st83⟩ := Jvm.LawKit.callS X76 hx (y := (⟨"com/example/naqsh/naqsh/mining/TransactionSets", "fingerprint", "([JII)J"⟩ : MethodName)) hown (mvT hZ (hw _ (List.mem_of_getElem? (i := 3) rfl))) (mvT hZ (hw _ (List.mem_of_getElem? (i := 4) rfl))) (mvT hZ (hw _ (List.mem_of_getElem? (i := 5) rfl))) (mvT hZ (hw _ (List.mem_of_getElem? (i := 6) rfl))) (by decide) (backOf (W := 0) (rmF_1_2 l Z a0 hw [] b23 k23 q4 q0 q1 q2 q3 q4 h76 n0 Z76 V76) hZ (hw _ (List.mem_of_getElem? (i := 6) rfl)) (hw _ (List.mem_of_getElem? (i := 5) rfl)) (by decide) (by decide)) (g := (mkF m 179 #[.val (.long q0), .second, .val (.long q1), .second, .val (.long q2), .second, .val (.long q3), .second, .val (.long q4), .second, .val (.int p5), .val (.int 2), .val (.int 1), .val (.ref b23), .val (.long (-7046029254386353131)), .second, .val (.long (((0 : Int64) + (q0 * (-7046029254386353131 : Int64))) + (q1 * (-7046029254386353129 : Int64)))), .second, .unset, .unset] [(.int 2), (.int 1), (.ref b23)])) rfl (by rw [hml]; rfl) (argsL := [(.ref b23), (.int 1), (.int 2)]) (rest := []) (lenOf pd_285bJII29J rfl) rfl (by show 2 * 0 + _ ≤ _; exact Nat.le_of_eq rfl) (hb hby at_179) (fun _ _ => ⟨rfl, e76, (by decide : 1 + 0 ≤ _), (by decide : 6 + 0 ≤ _)⟩)
      dsimp only [Pt.U, Pt.locs, Pt.cells, Pt.slots] at X83 l83 y83 z83 st83 hQ83
      subst l83 y83 z83
      obtain ⟨rfl, N83q, e83⟩ := hQ83
      have N83 := Fr.app N76 N83q
      obtain ⟨_, _, ⟨T84, L84, k84, n84⟩, -, X84, ⟨Lc84, hQ84, l84, y84, z84⟩, st84⟩ := Jvm.LawKit.callS X83 hx (y := (⟨"com/example/naqsh/naqsh/mining/TransactionSetsFingerprintPinLaw", "unmix", "(J)J"⟩ : MethodName)) hown (mvT hZ (hw _ (List.mem_of_getElem? (i := 11) rfl))) (mvT hZ (hw _ (List.mem_of_getElem? (i := 12) rfl))) (mvT hZ (hw _ (List.mem_of_getElem? (i := 13) rfl))) (mvT hZ (hw _ (List.mem_of_getElem? (i := 14) rfl))) (by decide) (backOf (W := 0) (rm2 l Z a0 hw [] (own_mix (((0 : Int64) + (q0 * (-7046029254386353131 : Int64))) + (q1 * (-7046029254386353129 : Int64)))) h76 n0 Z76) hZ (hw _ (List.mem_of_getElem? (i := 14) rfl)) (hw _ (List.mem_of_getElem? (i := 13) rfl)) (by decide) (by decide)) (g := (mkF m 186 #[.val (.long q0), .second, .val (.long q1), .second, .val (.long q2), .second, .val (.long q3), .second, .val (.long q4), .second, .val (.int p5), .val (.int 2), .val (.int 1), .val (.ref b23), .val (.long (-7046029254386353131)), .second, .val (.long (((0 : Int64) + (q0 * (-7046029254386353131 : Int64))) + (q1 * (-7046029254386353129 : Int64)))), .second, .val (.long (own_mix (((0 : Int64) + (q0 * (-7046029254386353131 : Int64))) + (q1 * (-7046029254386353129 : Int64))))), .second] [(.long (own_mix (((0 : Int64) + (q0 * (-7046029254386353131 : Int64))) + (q1 * (-7046029254386353129 : Int64)))))])) rfl (by rw [hml]; rfl) (argsL := [(.long (own_mix (((0 : Int64) + (q0 * (-7046029254386353131 : Int64))) + (q1 * (-7046029254386353129 : Int64)))))]) (rest := []) (lenOf pd_28J29J rfl) rfl (by show 2 * 0 + _ ≤ _; exact Nat.le_of_eq rfl) (hb hby at_186) (fun _ _ => ⟨rfl, e83, (by decide : 1 + 0 ≤ _), (by decide : 6 + 0 ≤ _)⟩)
      dsimp only [Pt.U, Pt.locs, Pt.cells, Pt.slots] at X84 l84 y84 z84 st84 hQ84
      subst l84 y84 z84
      obtain ⟨rfl, N84q, e84⟩ := hQ84
      have N84 := Fr.app N83 N84q
      obtain ⟨fs, hr, hrun, hended, hW, hsame⟩ := X84.leave (v := some (.int 1)) (fun h => by rw [Bd.returns] at h; cases h)
      refine ⟨_, _, pre0 _ ?_, hrun, hended, _, _, rfl, ?_, ⟨_, rfl⟩, hW, hsame.mono (by decide) (by decide)⟩
      · refine G78 _ ?_
        rw [hl]
        refine own_iload X76.here hx (hb hby at_100) rfl ?_
        refine own_ifNo X76.here hx (hb hby at_102) ((if0 _ _).trans (tlt (by decide : (0 : Int32) < (2 : Int32))).2.2.2) ?_
        refine own_lload X76.here hx (hb hby at_105) rfl ?_
        refine own_lloadN X76.here hx (hb hby at_107) rfl ?_
        refine own_lload X76.here hx (hb hby at_108) rfl ?_
        refine own_lmul X76.here hx (hb hby at_110) ?_
        refine own_ladd X76.here hx (hb hby at_111) ?_
        refine own_lstore X76.here hx (hb hby at_112) (l' := #[.val (.long q0), .second, .val (.long q1), .second, .val (.long q2), .second, .val (.long q3), .second, .val (.long q4), .second, .val (.int p5), .val (.int 2), .val (.int 1), .val (.ref b23), .val (.long (-7046029254386353131)), .second, .val (.long ((0 : Int64) + (q0 * (-7046029254386353131 : Int64)))), .second, .unset, .unset]) rfl ?_
        refine own_iload X76.here hx (hb hby at_114) rfl ?_
        refine own_iconst X76.here hx (1 : Int32) (hb hby at_116) rfl ?_
        refine own_icmpNo X76.here hx (hb hby at_117) (tlt (by decide : (1 : Int32) < (2 : Int32))).2.2.2 ?_
        refine own_lload X76.here hx (hb hby at_120) rfl ?_
        refine own_lloadN X76.here hx (hb hby at_122) rfl ?_
        refine own_lload X76.here hx (hb hby at_123) rfl ?_
        refine X76.ldc2Long hx hown (mvT hZ (hw _ (List.mem_of_getElem? (i := 2) rfl))) (g := (mkF m 125 #[.val (.long q0), .second, .val (.long q1), .second, .val (.long q2), .second, .val (.long q3), .second, .val (.long q4), .second, .val (.int p5), .val (.int 2), .val (.int 1), .val (.ref b23), .val (.long (-7046029254386353131)), .second, .val (.long ((0 : Int64) + (q0 * (-7046029254386353131 : Int64)))), .second, .unset, .unset] [(.long (-7046029254386353131)), (.long q1), (.long ((0 : Int64) + (q0 * (-7046029254386353131 : Int64))))])) rfl (hb hby at_125) _ ?_
        show Steps p.tables e below (T76.setTop (mkF m 128 #[.val (.long q0), .second, .val (.long q1), .second, .val (.long q2), .second, .val (.long q3), .second, .val (.long q4), .second, .val (.int p5), .val (.int 2), .val (.int 1), .val (.ref b23), .val (.long (-7046029254386353131)), .second, .val (.long ((0 : Int64) + (q0 * (-7046029254386353131 : Int64)))), .second, .unset, .unset] [(.long 2), (.long (-7046029254386353131)), (.long q1), (.long ((0 : Int64) + (q0 * (-7046029254386353131 : Int64))))])) _
        refine own_ladd X76.here hx (hb hby at_128) ?_
        show Steps p.tables e below (T76.setTop (mkF m 129 #[.val (.long q0), .second, .val (.long q1), .second, .val (.long q2), .second, .val (.long q3), .second, .val (.long q4), .second, .val (.int p5), .val (.int 2), .val (.int 1), .val (.ref b23), .val (.long (-7046029254386353131)), .second, .val (.long ((0 : Int64) + (q0 * (-7046029254386353131 : Int64)))), .second, .unset, .unset] [(.long (-7046029254386353129)), (.long q1), (.long ((0 : Int64) + (q0 * (-7046029254386353131 : Int64))))])) _
        refine own_lmul X76.here hx (hb hby at_129) ?_
        refine own_ladd X76.here hx (hb hby at_130) ?_
        refine own_lstore X76.here hx (hb hby at_131) (l' := #[.val (.long q0), .second, .val (.long q1), .second, .val (.long q2), .second, .val (.long q3), .second, .val (.long q4), .second, .val (.int p5), .val (.int 2), .val (.int 1), .val (.ref b23), .val (.long (-7046029254386353131)), .second, .val (.long (((0 : Int64) + (q0 * (-7046029254386353131 : Int64))) + (q1 * (-7046029254386353129 : Int64)))), .second, .unset, .unset]) rfl ?_
        refine own_iload X76.here hx (hb hby at_133) rfl ?_
        refine own_iconst X76.here hx (2 : Int32) (hb hby at_135) rfl ?_
        refine own_icmpYes X76.here hx 136 153 rfl (hb hby at_136) (flt (by decide : ¬ ((2 : Int32) < (2 : Int32)))).2.2.2 (by decide) (by decide) ?_
        refine own_iload X76.here hx (hb hby at_153) rfl ?_
        refine own_iconst X76.here hx (3 : Int32) (hb hby at_155) rfl ?_
        refine own_icmpYes X76.here hx 156 173 rfl (hb hby at_156) (flt (by decide : ¬ ((3 : Int32) < (2 : Int32)))).2.2.2 (by decide) (by decide) ?_
        refine own_aload X76.here hx (hb hby at_173) rfl rfl ?_
        refine own_iload X76.here hx (hb hby at_175) rfl ?_
        refine own_iload X76.here hx (hb hby at_177) rfl ?_
        refine st83 _ ?_
        show Steps p.tables e below (T83.setTop (mkF m 182 #[.val (.long q0), .second, .val (.long q1), .second, .val (.long q2), .second, .val (.long q3), .second, .val (.long q4), .second, .val (.int p5), .val (.int 2), .val (.int 1), .val (.ref b23), .val (.long (-7046029254386353131)), .second, .val (.long (((0 : Int64) + (q0 * (-7046029254386353131 : Int64))) + (q1 * (-7046029254386353129 : Int64)))), .second, .unset, .unset] [(.long (own_mix (((0 : Int64) + (q0 * (-7046029254386353131 : Int64))) + (q1 * (-7046029254386353129 : Int64)))))])) _
        refine own_lstore X83.here hx (hb hby at_182) (l' := #[.val (.long q0), .second, .val (.long q1), .second, .val (.long q2), .second, .val (.long q3), .second, .val (.long q4), .second, .val (.int p5), .val (.int 2), .val (.int 1), .val (.ref b23), .val (.long (-7046029254386353131)), .second, .val (.long (((0 : Int64) + (q0 * (-7046029254386353131 : Int64))) + (q1 * (-7046029254386353129 : Int64)))), .second, .val (.long (own_mix (((0 : Int64) + (q0 * (-7046029254386353131 : Int64))) + (q1 * (-7046029254386353129 : Int64))))), .second]) rfl ?_
        refine own_lload X83.here hx (hb hby at_184) rfl ?_
        refine st84 _ ?_
        show Steps p.tables e below (T84.setTop (mkF m 189 #[.val (.long q0), .second, .val (.long q1), .second, .val (.long q2), .second, .val (.long q3), .second, .val (.long q4), .second, .val (.int p5), .val (.int 2), .val (.int 1), .val (.ref b23), .val (.long (-7046029254386353131)), .second, .val (.long (((0 : Int64) + (q0 * (-7046029254386353131 : Int64))) + (q1 * (-7046029254386353129 : Int64)))), .second, .val (.long (own_mix (((0 : Int64) + (q0 * (-7046029254386353131 : Int64))) + (q1 * (-7046029254386353129 : Int64))))), .second] [(.long (own_un (own_mix (((0 : Int64) + (q0 * (-7046029254386353131 : Int64))) + (q1 * (-7046029254386353129 : Int64))))))])) _
        refine own_lload X84.here hx (hb hby at_189) rfl ?_
        refine own_lcmp X84.here hx (hb hby at_191) ?_
        refine own_ifNo X84.here hx (hb hby at_192) ((if0 _ _).trans (teq ((lw_eq _ _).mpr (own_unmix _))).2) ?_
        refine own_iconst X84.here hx (1 : Int32) (hb hby at_195) rfl ?_
        refine own_goto X84.here hx 196 200 rfl (hb hby at_196) (by decide) (by decide) ?_
        exact retN X84 hx (t := .boolean) Bd.returns (by simp) (hb hby at_200) hr
      · show Q0 Z q0 q1 q2 q3 q4 p5 h0 n0 _ T84.heap _
        rw [e84]
        exact ⟨rfl, N84⟩
    · obtain ⟨_, _, ⟨T85, L85, k85, n85⟩, -, X85, ⟨Lc85, hQ85, l85, y85, z85⟩, st85⟩ := Jvm.LawKit.callS X76 hx (y := (⟨"com/example/naqsh/naqsh/mining/TransactionSets", "fingerprint", "([JII)J"⟩ : MethodName)) hown (mvT hZ (hw _ (List.mem_of_getElem? (i := 3) rfl))) (mvT hZ (hw _ (List.mem_of_getElem? (i := 4) rfl))) (mvT hZ (hw _ (List.mem_of_getElem? (i := 5) rfl))) (mvT hZ (hw _ (List.mem_of_getElem? (i := 6) rfl))) (by decide) (backOf (W := 0) (rmF_1_3 l Z a0 hw [] b23 k23 q4 q0 q1 q2 q3 q4 h76 n0 Z76 V76) hZ (hw _ (List.mem_of_getElem? (i := 6) rfl)) (hw _ (List.mem_of_getElem? (i := 5) rfl)) (by decide) (by decide)) (g := (mkF m 179 #[.val (.long q0), .second, .val (.long q1), .second, .val (.long q2), .second, .val (.long q3), .second, .val (.long q4), .second, .val (.int p5), .val (.int 3), .val (.int 1), .val (.ref b23), .val (.long (-7046029254386353131)), .second, .val (.long ((((0 : Int64) + (q0 * (-7046029254386353131 : Int64))) + (q1 * (-7046029254386353129 : Int64))) + (q2 * (-7046029254386353127 : Int64)))), .second, .unset, .unset] [(.int 3), (.int 1), (.ref b23)])) rfl (by rw [hml]; rfl) (argsL := [(.ref b23), (.int 1), (.int 3)]) (rest := []) (lenOf pd_285bJII29J rfl) rfl (by show 2 * 0 + _ ≤ _; exact Nat.le_of_eq rfl) (hb hby at_179) (fun _ _ => ⟨rfl, e76, (by decide : 1 + 0 ≤ _), (by decide : 6 + 0 ≤ _)⟩)
      dsimp only [Pt.U, Pt.locs, Pt.cells, Pt.slots] at X85 l85 y85 z85 st85 hQ85
      subst l85 y85 z85
      obtain ⟨rfl, N85q, e85⟩ := hQ85
      have N85 := Fr.app N76 N85q
      obtain ⟨_, _, ⟨T86, L86, k86, n86⟩, -, X86, ⟨Lc86, hQ86, l86, y86, z86⟩, st86⟩ := Jvm.LawKit.callS X85 hx (y := (⟨"com/example/naqsh/naqsh/mining/TransactionSetsFingerprintPinLaw", "unmix", "(J)J"⟩ : MethodName)) hown (mvT hZ (hw _ (List.mem_of_getElem? (i := 11) rfl))) (mvT hZ (hw _ (List.mem_of_getElem? (i := 12) rfl))) (mvT hZ (hw _ (List.mem_of_getElem? (i := 13) rfl))) (mvT hZ (hw _ (List.mem_of_getElem? (i := 14) rfl))) (by decide) (backOf (W := 0) (rm2 l Z a0 hw [] (own_mix ((((0 : Int64) + (q0 * (-7046029254386353131 : Int64))) + (q1 * (-7046029254386353129 : Int64))) + (q2 * (-7046029254386353127 : Int64)))) h76 n0 Z76) hZ (hw _ (List.mem_of_getElem? (i := 14) rfl)) (hw _ (List.mem_of_getElem? (i := 13) rfl)) (by decide) (by decide)) (g := (mkF m 186 #[.val (.long q0), .second, .val (.long q1), .second, .val (.long q2), .second, .val (.long q3), .second, .val (.long q4), .second, .val (.int p5), .val (.int 3), .val (.int 1), .val (.ref b23), .val (.long (-7046029254386353131)), .second, .val (.long ((((0 : Int64) + (q0 * (-7046029254386353131 : Int64))) + (q1 * (-7046029254386353129 : Int64))) + (q2 * (-7046029254386353127 : Int64)))), .second, .val (.long (own_mix ((((0 : Int64) + (q0 * (-7046029254386353131 : Int64))) + (q1 * (-7046029254386353129 : Int64))) + (q2 * (-7046029254386353127 : Int64))))), .second] [(.long (own_mix ((((0 : Int64) + (q0 * (-7046029254386353131 : Int64))) + (q1 * (-7046029254386353129 : Int64))) + (q2 * (-7046029254386353127 : Int64)))))])) rfl (by rw [hml]; rfl) (argsL := [(.long (own_mix ((((0 : Int64) + (q0 * (-7046029254386353131 : Int64))) + (q1 * (-7046029254386353129 : Int64))) + (q2 * (-7046029254386353127 : Int64)))))]) (rest := []) (lenOf pd_28J29J rfl) rfl (by show 2 * 0 + _ ≤ _; exact Nat.le_of_eq rfl) (hb hby at_186) (fun _ _ => ⟨rfl, e85, (by decide : 1 + 0 ≤ _), (by decide : 6 + 0 ≤ _)⟩)
      dsimp only [Pt.U, Pt.locs, Pt.cells, Pt.slots] at X86 l86 y86 z86 st86 hQ86
      subst l86 y86 z86
      obtain ⟨rfl, N86q, e86⟩ := hQ86
      have N86 := Fr.app N85 N86q
      obtain ⟨fs, hr, hrun, hended, hW, hsame⟩ := X86.leave (v := some (.int 1)) (fun h => by rw [Bd.returns] at h; cases h)
      refine ⟨_, _, pre0 _ ?_, hrun, hended, _, _, rfl, ?_, ⟨_, rfl⟩, hW, hsame.mono (by decide) (by decide)⟩
      · refine G78 _ ?_
        rw [hl]
        refine own_iload X76.here hx (hb hby at_100) rfl ?_
        refine own_ifNo X76.here hx (hb hby at_102) ((if0 _ _).trans (tlt (by decide : (0 : Int32) < (3 : Int32))).2.2.2) ?_
        refine own_lload X76.here hx (hb hby at_105) rfl ?_
        refine own_lloadN X76.here hx (hb hby at_107) rfl ?_
        refine own_lload X76.here hx (hb hby at_108) rfl ?_
        refine own_lmul X76.here hx (hb hby at_110) ?_
        refine own_ladd X76.here hx (hb hby at_111) ?_
        refine own_lstore X76.here hx (hb hby at_112) (l' := #[.val (.long q0), .second, .val (.long q1), .second, .val (.long q2), .second, .val (.long q3), .second, .val (.long q4), .second, .val (.int p5), .val (.int 3), .val (.int 1), .val (.ref b23), .val (.long (-7046029254386353131)), .second, .val (.long ((0 : Int64) + (q0 * (-7046029254386353131 : Int64)))), .second, .unset, .unset]) rfl ?_
        refine own_iload X76.here hx (hb hby at_114) rfl ?_
        refine own_iconst X76.here hx (1 : Int32) (hb hby at_116) rfl ?_
        refine own_icmpNo X76.here hx (hb hby at_117) (tlt (by decide : (1 : Int32) < (3 : Int32))).2.2.2 ?_
        refine own_lload X76.here hx (hb hby at_120) rfl ?_
        refine own_lloadN X76.here hx (hb hby at_122) rfl ?_
        refine own_lload X76.here hx (hb hby at_123) rfl ?_
        refine X76.ldc2Long hx hown (mvT hZ (hw _ (List.mem_of_getElem? (i := 2) rfl))) (g := (mkF m 125 #[.val (.long q0), .second, .val (.long q1), .second, .val (.long q2), .second, .val (.long q3), .second, .val (.long q4), .second, .val (.int p5), .val (.int 3), .val (.int 1), .val (.ref b23), .val (.long (-7046029254386353131)), .second, .val (.long ((0 : Int64) + (q0 * (-7046029254386353131 : Int64)))), .second, .unset, .unset] [(.long (-7046029254386353131)), (.long q1), (.long ((0 : Int64) + (q0 * (-7046029254386353131 : Int64))))])) rfl (hb hby at_125) _ ?_
        show Steps p.tables e below (T76.setTop (mkF m 128 #[.val (.long q0), .second, .val (.long q1), .second, .val (.long q2), .second, .val (.long q3), .second, .val (.long q4), .second, .val (.int p5), .val (.int 3), .val (.int 1), .val (.ref b23), .val (.long (-7046029254386353131)), .second, .val (.long ((0 : Int64) + (q0 * (-7046029254386353131 : Int64)))), .second, .unset, .unset] [(.long 2), (.long (-7046029254386353131)), (.long q1), (.long ((0 : Int64) + (q0 * (-7046029254386353131 : Int64))))])) _
        refine own_ladd X76.here hx (hb hby at_128) ?_
        show Steps p.tables e below (T76.setTop (mkF m 129 #[.val (.long q0), .second, .val (.long q1), .second, .val (.long q2), .second, .val (.long q3), .second, .val (.long q4), .second, .val (.int p5), .val (.int 3), .val (.int 1), .val (.ref b23), .val (.long (-7046029254386353131)), .second, .val (.long ((0 : Int64) + (q0 * (-7046029254386353131 : Int64)))), .second, .unset, .unset] [(.long (-7046029254386353129)), (.long q1), (.long ((0 : Int64) + (q0 * (-7046029254386353131 : Int64))))])) _
        refine own_lmul X76.here hx (hb hby at_129) ?_
        refine own_ladd X76.here hx (hb hby at_130) ?_
        refine own_lstore X76.here hx (hb hby at_131) (l' := #[.val (.long q0), .second, .val (.long q1), .second, .val (.long q2), .second, .val (.long q3), .second, .val (.long q4), .second, .val (.int p5), .val (.int 3), .val (.int 1), .val (.ref b23), .val (.long (-7046029254386353131)), .second, .val (.long (((0 : Int64) + (q0 * (-7046029254386353131 : Int64))) + (q1 * (-7046029254386353129 : Int64)))), .second, .unset, .unset]) rfl ?_
        refine own_iload X76.here hx (hb hby at_133) rfl ?_
        refine own_iconst X76.here hx (2 : Int32) (hb hby at_135) rfl ?_
        refine own_icmpNo X76.here hx (hb hby at_136) (tlt (by decide : (2 : Int32) < (3 : Int32))).2.2.2 ?_
        refine own_lload X76.here hx (hb hby at_139) rfl ?_
        refine own_lload X76.here hx (hb hby at_141) rfl ?_
        refine own_lload X76.here hx (hb hby at_143) rfl ?_
        refine X76.ldc2Long hx hown (mvT hZ (hw _ (List.mem_of_getElem? (i := 20) rfl))) (g := (mkF m 145 #[.val (.long q0), .second, .val (.long q1), .second, .val (.long q2), .second, .val (.long q3), .second, .val (.long q4), .second, .val (.int p5), .val (.int 3), .val (.int 1), .val (.ref b23), .val (.long (-7046029254386353131)), .second, .val (.long (((0 : Int64) + (q0 * (-7046029254386353131 : Int64))) + (q1 * (-7046029254386353129 : Int64)))), .second, .unset, .unset] [(.long (-7046029254386353131)), (.long q2), (.long (((0 : Int64) + (q0 * (-7046029254386353131 : Int64))) + (q1 * (-7046029254386353129 : Int64))))])) rfl (hb hby at_145) _ ?_
        show Steps p.tables e below (T76.setTop (mkF m 148 #[.val (.long q0), .second, .val (.long q1), .second, .val (.long q2), .second, .val (.long q3), .second, .val (.long q4), .second, .val (.int p5), .val (.int 3), .val (.int 1), .val (.ref b23), .val (.long (-7046029254386353131)), .second, .val (.long (((0 : Int64) + (q0 * (-7046029254386353131 : Int64))) + (q1 * (-7046029254386353129 : Int64)))), .second, .unset, .unset] [(.long 4), (.long (-7046029254386353131)), (.long q2), (.long (((0 : Int64) + (q0 * (-7046029254386353131 : Int64))) + (q1 * (-7046029254386353129 : Int64))))])) _
        refine own_ladd X76.here hx (hb hby at_148) ?_
        show Steps p.tables e below (T76.setTop (mkF m 149 #[.val (.long q0), .second, .val (.long q1), .second, .val (.long q2), .second, .val (.long q3), .second, .val (.long q4), .second, .val (.int p5), .val (.int 3), .val (.int 1), .val (.ref b23), .val (.long (-7046029254386353131)), .second, .val (.long (((0 : Int64) + (q0 * (-7046029254386353131 : Int64))) + (q1 * (-7046029254386353129 : Int64)))), .second, .unset, .unset] [(.long (-7046029254386353127)), (.long q2), (.long (((0 : Int64) + (q0 * (-7046029254386353131 : Int64))) + (q1 * (-7046029254386353129 : Int64))))])) _
        refine own_lmul X76.here hx (hb hby at_149) ?_
        refine own_ladd X76.here hx (hb hby at_150) ?_
        refine own_lstore X76.here hx (hb hby at_151) (l' := #[.val (.long q0), .second, .val (.long q1), .second, .val (.long q2), .second, .val (.long q3), .second, .val (.long q4), .second, .val (.int p5), .val (.int 3), .val (.int 1), .val (.ref b23), .val (.long (-7046029254386353131)), .second, .val (.long ((((0 : Int64) + (q0 * (-7046029254386353131 : Int64))) + (q1 * (-7046029254386353129 : Int64))) + (q2 * (-7046029254386353127 : Int64)))), .second, .unset, .unset]) rfl ?_
        refine own_iload X76.here hx (hb hby at_153) rfl ?_
        refine own_iconst X76.here hx (3 : Int32) (hb hby at_155) rfl ?_
        refine own_icmpYes X76.here hx 156 173 rfl (hb hby at_156) (flt (by decide : ¬ ((3 : Int32) < (3 : Int32)))).2.2.2 (by decide) (by decide) ?_
        refine own_aload X76.here hx (hb hby at_173) rfl rfl ?_
        refine own_iload X76.here hx (hb hby at_175) rfl ?_
        refine own_iload X76.here hx (hb hby at_177) rfl ?_
        refine st85 _ ?_
        show Steps p.tables e below (T85.setTop (mkF m 182 #[.val (.long q0), .second, .val (.long q1), .second, .val (.long q2), .second, .val (.long q3), .second, .val (.long q4), .second, .val (.int p5), .val (.int 3), .val (.int 1), .val (.ref b23), .val (.long (-7046029254386353131)), .second, .val (.long ((((0 : Int64) + (q0 * (-7046029254386353131 : Int64))) + (q1 * (-7046029254386353129 : Int64))) + (q2 * (-7046029254386353127 : Int64)))), .second, .unset, .unset] [(.long (own_mix ((((0 : Int64) + (q0 * (-7046029254386353131 : Int64))) + (q1 * (-7046029254386353129 : Int64))) + (q2 * (-7046029254386353127 : Int64)))))])) _
        refine own_lstore X85.here hx (hb hby at_182) (l' := #[.val (.long q0), .second, .val (.long q1), .second, .val (.long q2), .second, .val (.long q3), .second, .val (.long q4), .second, .val (.int p5), .val (.int 3), .val (.int 1), .val (.ref b23), .val (.long (-7046029254386353131)), .second, .val (.long ((((0 : Int64) + (q0 * (-7046029254386353131 : Int64))) + (q1 * (-7046029254386353129 : Int64))) + (q2 * (-7046029254386353127 : Int64)))), .second, .val (.long (own_mix ((((0 : Int64) + (q0 * (-7046029254386353131 : Int64))) + (q1 * (-7046029254386353129 : Int64))) + (q2 * (-7046029254386353127 : Int64))))), .second]) rfl ?_
        refine own_lload X85.here hx (hb hby at_184) rfl ?_
        refine st86 _ ?_
        show Steps p.tables e below (T86.setTop (mkF m 189 #[.val (.long q0), .second, .val (.long q1), .second, .val (.long q2), .second, .val (.long q3), .second, .val (.long q4), .second, .val (.int p5), .val (.int 3), .val (.int 1), .val (.ref b23), .val (.long (-7046029254386353131)), .second, .val (.long ((((0 : Int64) + (q0 * (-7046029254386353131 : Int64))) + (q1 * (-7046029254386353129 : Int64))) + (q2 * (-7046029254386353127 : Int64)))), .second, .val (.long (own_mix ((((0 : Int64) + (q0 * (-7046029254386353131 : Int64))) + (q1 * (-7046029254386353129 : Int64))) + (q2 * (-7046029254386353127 : Int64))))), .second] [(.long (own_un (own_mix ((((0 : Int64) + (q0 * (-7046029254386353131 : Int64))) + (q1 * (-7046029254386353129 : Int64))) + (q2 * (-7046029254386353127 : Int64))))))])) _
        refine own_lload X86.here hx (hb hby at_189) rfl ?_
        refine own_lcmp X86.here hx (hb hby at_191) ?_
        refine own_ifNo X86.here hx (hb hby at_192) ((if0 _ _).trans (teq ((lw_eq _ _).mpr (own_unmix _))).2) ?_
        refine own_iconst X86.here hx (1 : Int32) (hb hby at_195) rfl ?_
        refine own_goto X86.here hx 196 200 rfl (hb hby at_196) (by decide) (by decide) ?_
        exact retN X86 hx (t := .boolean) Bd.returns (by simp) (hb hby at_200) hr
      · show Q0 Z q0 q1 q2 q3 q4 p5 h0 n0 _ T86.heap _
        rw [e86]
        exact ⟨rfl, N86⟩
    · obtain ⟨_, _, ⟨T87, L87, k87, n87⟩, -, X87, ⟨Lc87, hQ87, l87, y87, z87⟩, st87⟩ := Jvm.LawKit.callS X76 hx (y := (⟨"com/example/naqsh/naqsh/mining/TransactionSets", "fingerprint", "([JII)J"⟩ : MethodName)) hown (mvT hZ (hw _ (List.mem_of_getElem? (i := 3) rfl))) (mvT hZ (hw _ (List.mem_of_getElem? (i := 4) rfl))) (mvT hZ (hw _ (List.mem_of_getElem? (i := 5) rfl))) (mvT hZ (hw _ (List.mem_of_getElem? (i := 6) rfl))) (by decide) (backOf (W := 0) (rmF_1_4 l Z a0 hw [] b23 k23 q4 q0 q1 q2 q3 q4 h76 n0 Z76 V76) hZ (hw _ (List.mem_of_getElem? (i := 6) rfl)) (hw _ (List.mem_of_getElem? (i := 5) rfl)) (by decide) (by decide)) (g := (mkF m 179 #[.val (.long q0), .second, .val (.long q1), .second, .val (.long q2), .second, .val (.long q3), .second, .val (.long q4), .second, .val (.int p5), .val (.int 4), .val (.int 1), .val (.ref b23), .val (.long (-7046029254386353131)), .second, .val (.long (((((0 : Int64) + (q0 * (-7046029254386353131 : Int64))) + (q1 * (-7046029254386353129 : Int64))) + (q2 * (-7046029254386353127 : Int64))) + (q3 * (-7046029254386353125 : Int64)))), .second, .unset, .unset] [(.int 4), (.int 1), (.ref b23)])) rfl (by rw [hml]; rfl) (argsL := [(.ref b23), (.int 1), (.int 4)]) (rest := []) (lenOf pd_285bJII29J rfl) rfl (by show 2 * 0 + _ ≤ _; exact Nat.le_of_eq rfl) (hb hby at_179) (fun _ _ => ⟨rfl, e76, (by decide : 1 + 0 ≤ _), (by decide : 6 + 0 ≤ _)⟩)
      dsimp only [Pt.U, Pt.locs, Pt.cells, Pt.slots] at X87 l87 y87 z87 st87 hQ87
      subst l87 y87 z87
      obtain ⟨rfl, N87q, e87⟩ := hQ87
      have N87 := Fr.app N76 N87q
      obtain ⟨_, _, ⟨T88, L88, k88, n88⟩, -, X88, ⟨Lc88, hQ88, l88, y88, z88⟩, st88⟩ := Jvm.LawKit.callS X87 hx (y := (⟨"com/example/naqsh/naqsh/mining/TransactionSetsFingerprintPinLaw", "unmix", "(J)J"⟩ : MethodName)) hown (mvT hZ (hw _ (List.mem_of_getElem? (i := 11) rfl))) (mvT hZ (hw _ (List.mem_of_getElem? (i := 12) rfl))) (mvT hZ (hw _ (List.mem_of_getElem? (i := 13) rfl))) (mvT hZ (hw _ (List.mem_of_getElem? (i := 14) rfl))) (by decide) (backOf (W := 0) (rm2 l Z a0 hw [] (own_mix (((((0 : Int64) + (q0 * (-7046029254386353131 : Int64))) + (q1 * (-7046029254386353129 : Int64))) + (q2 * (-7046029254386353127 : Int64))) + (q3 * (-7046029254386353125 : Int64)))) h76 n0 Z76) hZ (hw _ (List.mem_of_getElem? (i := 14) rfl)) (hw _ (List.mem_of_getElem? (i := 13) rfl)) (by decide) (by decide)) (g := (mkF m 186 #[.val (.long q0), .second, .val (.long q1), .second, .val (.long q2), .second, .val (.long q3), .second, .val (.long q4), .second, .val (.int p5), .val (.int 4), .val (.int 1), .val (.ref b23), .val (.long (-7046029254386353131)), .second, .val (.long (((((0 : Int64) + (q0 * (-7046029254386353131 : Int64))) + (q1 * (-7046029254386353129 : Int64))) + (q2 * (-7046029254386353127 : Int64))) + (q3 * (-7046029254386353125 : Int64)))), .second, .val (.long (own_mix (((((0 : Int64) + (q0 * (-7046029254386353131 : Int64))) + (q1 * (-7046029254386353129 : Int64))) + (q2 * (-7046029254386353127 : Int64))) + (q3 * (-7046029254386353125 : Int64))))), .second] [(.long (own_mix (((((0 : Int64) + (q0 * (-7046029254386353131 : Int64))) + (q1 * (-7046029254386353129 : Int64))) + (q2 * (-7046029254386353127 : Int64))) + (q3 * (-7046029254386353125 : Int64)))))])) rfl (by rw [hml]; rfl) (argsL := [(.long (own_mix (((((0 : Int64) + (q0 * (-7046029254386353131 : Int64))) + (q1 * (-7046029254386353129 : Int64))) + (q2 * (-7046029254386353127 : Int64))) + (q3 * (-7046029254386353125 : Int64)))))]) (rest := []) (lenOf pd_28J29J rfl) rfl (by show 2 * 0 + _ ≤ _; exact Nat.le_of_eq rfl) (hb hby at_186) (fun _ _ => ⟨rfl, e87, (by decide : 1 + 0 ≤ _), (by decide : 6 + 0 ≤ _)⟩)
      dsimp only [Pt.U, Pt.locs, Pt.cells, Pt.slots] at X88 l88 y88 z88 st88 hQ88
      subst l88 y88 z88
      obtain ⟨rfl, N88q, e88⟩ := hQ88
      have N88 := Fr.app N87 N88q
      obtain ⟨fs, hr, hrun, hended, hW, hsame⟩ := X88.leave (v := some (.int 1)) (fun h => by rw [Bd.returns] at h; cases h)
      refine ⟨_, _, pre0 _ ?_, hrun, hended, _, _, rfl, ?_, ⟨_, rfl⟩, hW, hsame.mono (by decide) (by decide)⟩
      · refine G78 _ ?_
        rw [hl]
        refine own_iload X76.here hx (hb hby at_100) rfl ?_
        refine own_ifNo X76.here hx (hb hby at_102) ((if0 _ _).trans (tlt (by decide : (0 : Int32) < (4 : Int32))).2.2.2) ?_
        refine own_lload X76.here hx (hb hby at_105) rfl ?_
        refine own_lloadN X76.here hx (hb hby at_107) rfl ?_
        refine own_lload X76.here hx (hb hby at_108) rfl ?_
        refine own_lmul X76.here hx (hb hby at_110) ?_
        refine own_ladd X76.here hx (hb hby at_111) ?_
        refine own_lstore X76.here hx (hb hby at_112) (l' := #[.val (.long q0), .second, .val (.long q1), .second, .val (.long q2), .second, .val (.long q3), .second, .val (.long q4), .second, .val (.int p5), .val (.int 4), .val (.int 1), .val (.ref b23), .val (.long (-7046029254386353131)), .second, .val (.long ((0 : Int64) + (q0 * (-7046029254386353131 : Int64)))), .second, .unset, .unset]) rfl ?_
        refine own_iload X76.here hx (hb hby at_114) rfl ?_
        refine own_iconst X76.here hx (1 : Int32) (hb hby at_116) rfl ?_
        refine own_icmpNo X76.here hx (hb hby at_117) (tlt (by decide : (1 : Int32) < (4 : Int32))).2.2.2 ?_
        refine own_lload X76.here hx (hb hby at_120) rfl ?_
        refine own_lloadN X76.here hx (hb hby at_122) rfl ?_
        refine own_lload X76.here hx (hb hby at_123) rfl ?_
        refine X76.ldc2Long hx hown (mvT hZ (hw _ (List.mem_of_getElem? (i := 2) rfl))) (g := (mkF m 125 #[.val (.long q0), .second, .val (.long q1), .second, .val (.long q2), .second, .val (.long q3), .second, .val (.long q4), .second, .val (.int p5), .val (.int 4), .val (.int 1), .val (.ref b23), .val (.long (-7046029254386353131)), .second, .val (.long ((0 : Int64) + (q0 * (-7046029254386353131 : Int64)))), .second, .unset, .unset] [(.long (-7046029254386353131)), (.long q1), (.long ((0 : Int64) + (q0 * (-7046029254386353131 : Int64))))])) rfl (hb hby at_125) _ ?_
        show Steps p.tables e below (T76.setTop (mkF m 128 #[.val (.long q0), .second, .val (.long q1), .second, .val (.long q2), .second, .val (.long q3), .second, .val (.long q4), .second, .val (.int p5), .val (.int 4), .val (.int 1), .val (.ref b23), .val (.long (-7046029254386353131)), .second, .val (.long ((0 : Int64) + (q0 * (-7046029254386353131 : Int64)))), .second, .unset, .unset] [(.long 2), (.long (-7046029254386353131)), (.long q1), (.long ((0 : Int64) + (q0 * (-7046029254386353131 : Int64))))])) _
        refine own_ladd X76.here hx (hb hby at_128) ?_
        show Steps p.tables e below (T76.setTop (mkF m 129 #[.val (.long q0), .second, .val (.long q1), .second, .val (.long q2), .second, .val (.long q3), .second, .val (.long q4), .second, .val (.int p5), .val (.int 4), .val (.int 1), .val (.ref b23), .val (.long (-7046029254386353131)), .second, .val (.long ((0 : Int64) + (q0 * (-7046029254386353131 : Int64)))), .second, .unset, .unset] [(.long (-7046029254386353129)), (.long q1), (.long ((0 : Int64) + (q0 * (-7046029254386353131 : Int64))))])) _
        refine own_lmul X76.here hx (hb hby at_129) ?_
        refine own_ladd X76.here hx (hb hby at_130) ?_
        refine own_lstore X76.here hx (hb hby at_131) (l' := #[.val (.long q0), .second, .val (.long q1), .second, .val (.long q2), .second, .val (.long q3), .second, .val (.long q4), .second, .val (.int p5), .val (.int 4), .val (.int 1), .val (.ref b23), .val (.long (-7046029254386353131)), .second, .val (.long (((0 : Int64) + (q0 * (-7046029254386353131 : Int64))) + (q1 * (-7046029254386353129 : Int64)))), .second, .unset, .unset]) rfl ?_
        refine own_iload X76.here hx (hb hby at_133) rfl ?_
        refine own_iconst X76.here hx (2 : Int32) (hb hby at_135) rfl ?_
        refine own_icmpNo X76.here hx (hb hby at_136) (tlt (by decide : (2 : Int32) < (4 : Int32))).2.2.2 ?_
        refine own_lload X76.here hx (hb hby at_139) rfl ?_
        refine own_lload X76.here hx (hb hby at_141) rfl ?_
        refine own_lload X76.here hx (hb hby at_143) rfl ?_
        refine X76.ldc2Long hx hown (mvT hZ (hw _ (List.mem_of_getElem? (i := 20) rfl))) (g := (mkF m 145 #[.val (.long q0), .second, .val (.long q1), .second, .val (.long q2), .second, .val (.long q3), .second, .val (.long q4), .second, .val (.int p5), .val (.int 4), .val (.int 1), .val (.ref b23), .val (.long (-7046029254386353131)), .second, .val (.long (((0 : Int64) + (q0 * (-7046029254386353131 : Int64))) + (q1 * (-7046029254386353129 : Int64)))), .second, .unset, .unset] [(.long (-7046029254386353131)), (.long q2), (.long (((0 : Int64) + (q0 * (-7046029254386353131 : Int64))) + (q1 * (-7046029254386353129 : Int64))))])) rfl (hb hby at_145) _ ?_
        show Steps p.tables e below (T76.setTop (mkF m 148 #[.val (.long q0), .second, .val (.long q1), .second, .val (.long q2), .second, .val (.long q3), .second, .val (.long q4), .second, .val (.int p5), .val (.int 4), .val (.int 1), .val (.ref b23), .val (.long (-7046029254386353131)), .second, .val (.long (((0 : Int64) + (q0 * (-7046029254386353131 : Int64))) + (q1 * (-7046029254386353129 : Int64)))), .second, .unset, .unset] [(.long 4), (.long (-7046029254386353131)), (.long q2), (.long (((0 : Int64) + (q0 * (-7046029254386353131 : Int64))) + (q1 * (-7046029254386353129 : Int64))))])) _
        refine own_ladd X76.here hx (hb hby at_148) ?_
        show Steps p.tables e below (T76.setTop (mkF m 149 #[.val (.long q0), .second, .val (.long q1), .second, .val (.long q2), .second, .val (.long q3), .second, .val (.long q4), .second, .val (.int p5), .val (.int 4), .val (.int 1), .val (.ref b23), .val (.long (-7046029254386353131)), .second, .val (.long (((0 : Int64) + (q0 * (-7046029254386353131 : Int64))) + (q1 * (-7046029254386353129 : Int64)))), .second, .unset, .unset] [(.long (-7046029254386353127)), (.long q2), (.long (((0 : Int64) + (q0 * (-7046029254386353131 : Int64))) + (q1 * (-7046029254386353129 : Int64))))])) _
        refine own_lmul X76.here hx (hb hby at_149) ?_
        refine own_ladd X76.here hx (hb hby at_150) ?_
        refine own_lstore X76.here hx (hb hby at_151) (l' := #[.val (.long q0), .second, .val (.long q1), .second, .val (.long q2), .second, .val (.long q3), .second, .val (.long q4), .second, .val (.int p5), .val (.int 4), .val (.int 1), .val (.ref b23), .val (.long (-7046029254386353131)), .second, .val (.long ((((0 : Int64) + (q0 * (-7046029254386353131 : Int64))) + (q1 * (-7046029254386353129 : Int64))) + (q2 * (-7046029254386353127 : Int64)))), .second, .unset, .unset]) rfl ?_
        refine own_iload X76.here hx (hb hby at_153) rfl ?_
        refine own_iconst X76.here hx (3 : Int32) (hb hby at_155) rfl ?_
        refine own_icmpNo X76.here hx (hb hby at_156) (tlt (by decide : (3 : Int32) < (4 : Int32))).2.2.2 ?_
        refine own_lload X76.here hx (hb hby at_159) rfl ?_
        refine own_lload X76.here hx (hb hby at_161) rfl ?_
        refine own_lload X76.here hx (hb hby at_163) rfl ?_
        refine X76.ldc2Long hx hown (mvT hZ (hw _ (List.mem_of_getElem? (i := 21) rfl))) (g := (mkF m 165 #[.val (.long q0), .second, .val (.long q1), .second, .val (.long q2), .second, .val (.long q3), .second, .val (.long q4), .second, .val (.int p5), .val (.int 4), .val (.int 1), .val (.ref b23), .val (.long (-7046029254386353131)), .second, .val (.long ((((0 : Int64) + (q0 * (-7046029254386353131 : Int64))) + (q1 * (-7046029254386353129 : Int64))) + (q2 * (-7046029254386353127 : Int64)))), .second, .unset, .unset] [(.long (-7046029254386353131)), (.long q3), (.long ((((0 : Int64) + (q0 * (-7046029254386353131 : Int64))) + (q1 * (-7046029254386353129 : Int64))) + (q2 * (-7046029254386353127 : Int64))))])) rfl (hb hby at_165) _ ?_
        show Steps p.tables e below (T76.setTop (mkF m 168 #[.val (.long q0), .second, .val (.long q1), .second, .val (.long q2), .second, .val (.long q3), .second, .val (.long q4), .second, .val (.int p5), .val (.int 4), .val (.int 1), .val (.ref b23), .val (.long (-7046029254386353131)), .second, .val (.long ((((0 : Int64) + (q0 * (-7046029254386353131 : Int64))) + (q1 * (-7046029254386353129 : Int64))) + (q2 * (-7046029254386353127 : Int64)))), .second, .unset, .unset] [(.long 6), (.long (-7046029254386353131)), (.long q3), (.long ((((0 : Int64) + (q0 * (-7046029254386353131 : Int64))) + (q1 * (-7046029254386353129 : Int64))) + (q2 * (-7046029254386353127 : Int64))))])) _
        refine own_ladd X76.here hx (hb hby at_168) ?_
        show Steps p.tables e below (T76.setTop (mkF m 169 #[.val (.long q0), .second, .val (.long q1), .second, .val (.long q2), .second, .val (.long q3), .second, .val (.long q4), .second, .val (.int p5), .val (.int 4), .val (.int 1), .val (.ref b23), .val (.long (-7046029254386353131)), .second, .val (.long ((((0 : Int64) + (q0 * (-7046029254386353131 : Int64))) + (q1 * (-7046029254386353129 : Int64))) + (q2 * (-7046029254386353127 : Int64)))), .second, .unset, .unset] [(.long (-7046029254386353125)), (.long q3), (.long ((((0 : Int64) + (q0 * (-7046029254386353131 : Int64))) + (q1 * (-7046029254386353129 : Int64))) + (q2 * (-7046029254386353127 : Int64))))])) _
        refine own_lmul X76.here hx (hb hby at_169) ?_
        refine own_ladd X76.here hx (hb hby at_170) ?_
        refine own_lstore X76.here hx (hb hby at_171) (l' := #[.val (.long q0), .second, .val (.long q1), .second, .val (.long q2), .second, .val (.long q3), .second, .val (.long q4), .second, .val (.int p5), .val (.int 4), .val (.int 1), .val (.ref b23), .val (.long (-7046029254386353131)), .second, .val (.long (((((0 : Int64) + (q0 * (-7046029254386353131 : Int64))) + (q1 * (-7046029254386353129 : Int64))) + (q2 * (-7046029254386353127 : Int64))) + (q3 * (-7046029254386353125 : Int64)))), .second, .unset, .unset]) rfl ?_
        refine own_aload X76.here hx (hb hby at_173) rfl rfl ?_
        refine own_iload X76.here hx (hb hby at_175) rfl ?_
        refine own_iload X76.here hx (hb hby at_177) rfl ?_
        refine st87 _ ?_
        show Steps p.tables e below (T87.setTop (mkF m 182 #[.val (.long q0), .second, .val (.long q1), .second, .val (.long q2), .second, .val (.long q3), .second, .val (.long q4), .second, .val (.int p5), .val (.int 4), .val (.int 1), .val (.ref b23), .val (.long (-7046029254386353131)), .second, .val (.long (((((0 : Int64) + (q0 * (-7046029254386353131 : Int64))) + (q1 * (-7046029254386353129 : Int64))) + (q2 * (-7046029254386353127 : Int64))) + (q3 * (-7046029254386353125 : Int64)))), .second, .unset, .unset] [(.long (own_mix (((((0 : Int64) + (q0 * (-7046029254386353131 : Int64))) + (q1 * (-7046029254386353129 : Int64))) + (q2 * (-7046029254386353127 : Int64))) + (q3 * (-7046029254386353125 : Int64)))))])) _
        refine own_lstore X87.here hx (hb hby at_182) (l' := #[.val (.long q0), .second, .val (.long q1), .second, .val (.long q2), .second, .val (.long q3), .second, .val (.long q4), .second, .val (.int p5), .val (.int 4), .val (.int 1), .val (.ref b23), .val (.long (-7046029254386353131)), .second, .val (.long (((((0 : Int64) + (q0 * (-7046029254386353131 : Int64))) + (q1 * (-7046029254386353129 : Int64))) + (q2 * (-7046029254386353127 : Int64))) + (q3 * (-7046029254386353125 : Int64)))), .second, .val (.long (own_mix (((((0 : Int64) + (q0 * (-7046029254386353131 : Int64))) + (q1 * (-7046029254386353129 : Int64))) + (q2 * (-7046029254386353127 : Int64))) + (q3 * (-7046029254386353125 : Int64))))), .second]) rfl ?_
        refine own_lload X87.here hx (hb hby at_184) rfl ?_
        refine st88 _ ?_
        show Steps p.tables e below (T88.setTop (mkF m 189 #[.val (.long q0), .second, .val (.long q1), .second, .val (.long q2), .second, .val (.long q3), .second, .val (.long q4), .second, .val (.int p5), .val (.int 4), .val (.int 1), .val (.ref b23), .val (.long (-7046029254386353131)), .second, .val (.long (((((0 : Int64) + (q0 * (-7046029254386353131 : Int64))) + (q1 * (-7046029254386353129 : Int64))) + (q2 * (-7046029254386353127 : Int64))) + (q3 * (-7046029254386353125 : Int64)))), .second, .val (.long (own_mix (((((0 : Int64) + (q0 * (-7046029254386353131 : Int64))) + (q1 * (-7046029254386353129 : Int64))) + (q2 * (-7046029254386353127 : Int64))) + (q3 * (-7046029254386353125 : Int64))))), .second] [(.long (own_un (own_mix (((((0 : Int64) + (q0 * (-7046029254386353131 : Int64))) + (q1 * (-7046029254386353129 : Int64))) + (q2 * (-7046029254386353127 : Int64))) + (q3 * (-7046029254386353125 : Int64))))))])) _
        refine own_lload X88.here hx (hb hby at_189) rfl ?_
        refine own_lcmp X88.here hx (hb hby at_191) ?_
        refine own_ifNo X88.here hx (hb hby at_192) ((if0 _ _).trans (teq ((lw_eq _ _).mpr (own_unmix _))).2) ?_
        refine own_iconst X88.here hx (1 : Int32) (hb hby at_195) rfl ?_
        refine own_goto X88.here hx 196 200 rfl (hb hby at_196) (by decide) (by decide) ?_
        exact retN X88 hx (t := .boolean) Bd.returns (by simp) (hb hby at_200) hr
      · show Q0 Z q0 q1 q2 q3 q4 p5 h0 n0 _ T88.heap _
        rw [e88]
        exact ⟨rfl, N88⟩
set_option maxRecDepth 65536 in
set_option maxHeartbeats 40000000 in
theorem comes_1 {Post : Tables → Env → Array Value → State → Outcome → State → Prop} (hpost : ∀ tb e args s v u, (limb_1_1.after args s (.returned v) u = true ∧ limb_1_2.after args s (.returned v) u = true ∧ True) → FrameEnd s (.returned v) u (Jvm.fieldLocs frame_1_writes args s ++ Jvm.arrayLocs frame_1_arrays args s ++ Jvm.staticLocs frame_1_statics s) 16 128 → Post tb e args s (.returned v) u) :
    ArmFor flags0 classFile x code maxLocals ret World_1 tables_1 room_1 Calls_1 rest_1 Pre_1 Post := by
  intro l hfl _ _ p e ha hc hk s m args below hf hA hF happ hP
  obtain ⟨hcalls, hrest, hpre⟩ := hP
  obtain ⟨-, -, -, hnamed, -, -, -, hat⟩ := (Spec.applies_iff hf).mp happ
  obtain ⟨hg, hn⟩ := and_e (Cond.before_iff.mp (show (Jvm.Cond.and given_1 narrow_1).before args s = true from hpre))
  obtain ⟨gv1, gv2⟩ := and_e hg
  obtain ⟨gv3, gv4⟩ := and_e gv2
  obtain ⟨gv5, gv6⟩ := and_e gv4
  obtain ⟨gv7, gv8⟩ := and_e gv6
  obtain ⟨gv9, gv10⟩ := and_e gv8
  obtain ⟨gv11, gv12⟩ := and_e gv10
  obtain ⟨w0, w1, w2, w3, w4, w5, rfl⟩ : ∃ w0 w1 w2 w3 w4 w5 : Value, args = #[w0, w1, w2, w3, w4, w5] := by
    have hs : args.size = 6 := by simpa [Cond.value, given_1] using gv1
    obtain ⟨L⟩ := args
    match L, hs with
    | [w0, w1, w2, w3, w4, w5], _ => exact ⟨w0, w1, w2, w3, w4, w5, rfl⟩
  have hw := fun d (hd : d ∈ tables_1) => atoms_spec (ws := Jvm.Cond.code x code maxLocals ret :: tables_1) hat d (List.mem_cons_of_mem _ hd)
  have hfit : Fit s := fun {y c} hc i hi => by
    obtain ⟨ha, rfl⟩ := Array.getElem?_eq_some_iff.mp hc
    have q := List.all_eq_true.mp ((Array.all_eq_true_iff_forall_mem.mp hF) _ (Array.getElem_mem ha)) i (List.mem_range.mpr hi)
    simpa [Array.getElem?_eq_getElem hi] using q
  obtain ⟨i0, ei0⟩ := isL_v gv3
  obtain rfl : w0 = (.long i0) := Option.some.inj ei0
  obtain ⟨i1, ei1⟩ := isL_v gv5
  obtain rfl : w1 = (.long i1) := Option.some.inj ei1
  obtain ⟨i2, ei2⟩ := isL_v gv7
  obtain rfl : w2 = (.long i2) := Option.some.inj ei2
  obtain ⟨i3, ei3⟩ := isL_v gv9
  obtain rfl : w3 = (.long i3) := Option.some.inj ei3
  obtain ⟨i4, ei4⟩ := isL_v gv11
  obtain rfl : w4 = (.long i4) := Option.some.inj ei4
  obtain ⟨i5, ei5⟩ := is_v gv12
  obtain rfl : w5 = (.int i5) := Option.some.inj ei5
  obtain ⟨n, o, h1, h2, h3, _, L, rfl, ⟨rfl, N⟩, hq⟩ := rm0 l s _ hw tables_1 i0 i1 i2 i3 i4 i5  s.heap s.heap.size (Nat.le_refl _)  p e ha hc hk s m _ below hf ((Spec.applies_iff_loose hf).mp happ).1 ⟨rfl, State.Warmed39.refl s, rfl⟩ trivial
  refine ⟨n, _, h1, h2, h3, hpost _ _ _ _ _ _ ⟨Cond.after_iff.mpr rfl, Cond.after_iff.mpr (eq_i res_at (Term.int_eval (1)) rfl), trivial⟩ ⟨hq.1, hq.2.1, (hq.2.2.sift fun y hy => Or.inr (N y hy)).mono (by decide) (by decide)⟩⟩
theorem main_1_1 : Claimed_1_1 := comes_1 fun _ _ _ _ _ _ h hF => ⟨h.1, hF⟩
theorem main_1_2 : Claimed_1_2 := comes_1 fun _ _ _ _ _ _ h hF => ⟨h.2.1, hF⟩
end Jvm.Pilot.@@N@@
namespace Jvm.Pilot.@@N@@
open Jvm Jvm.ClassFile Sem Op Lib Jvm.Free Jvm.Stand Jvm.Pilot.@@N@@.Jvm.D
/-! MADE BY PROGRAM (witnessworld.py) out of the Statement's table words and the real class files: 11 classes; the members and pool entries that the words name. The judged class is class 1, her method 3. -/
namespace start1
open Jvm.ClassFile
def u (s : String) : CpInfo := .utf8 (stringToUtf16 s)
/-- a pool by its gaps: so many unusable entries, then the entry; so many at the end -/
def gap : Nat → List CpInfo → List CpInfo
  | 0, r => r
  | n + 1, r => .unusable :: gap n r
def poolList (es : List (Nat × CpInfo)) (last : Nat) : List CpInfo := es.foldr (fun e r => gap e.1 (e.2 :: r)) (gap last [])
def pool (es : List (Nat × CpInfo)) (last : Nat) : Array CpInfo := ⟨poolList es last⟩
def fileOf (pool : Array CpInfo) (this : Nat) (attrs : Array Attribute := #[]) (ms : Array MethodInfo := #[]) (fl : Nat := 33) (sup : Nat := 0) (ifs : Array Nat := #[]) (fds : Array FieldInfo := #[]) : ClassFile where
  minorVersion := 0
  majorVersion := 65
  constantPool := pool
  accessFlags := fl
  thisClass := this
  superClass := sup
  interfaces := ifs
  fields := fds
  methods := ms
  attributes := attrs
def plain (name : String) (sup : Option ClassId) : Class where
  name := name
  kind := .ordinary
  loader := none
  accessFlags := 33
  super := sup
  interfaces := #[]
  cf := none
  fields := #[]
  methods := #[]
  instanceTypes := #[]
  staticTypes := #[]
  resolved := #[]
  callSites := []
  init := .initialized
  statics := none
  mirror := none

def pool0 : Array CpInfo := pool [(5, u "<init>"), (0, u "()V"), (1, .class_ 10), (1, u "java/lang/Object")] 113

def k0m0 : Method := { name := "<init>", desc := "()V", sig := { parameters := [], returnType := none }, accessFlags := 1, code := none }
/-- java/lang/Object -/
def k0 : Class := { plain "java/lang/Object" none with
  accessFlags := 33
  interfaces := #[]
  cf := some (fileOf pool0 8 #[] #[{ accessFlags := 1, nameIndex := 5, descriptorIndex := 6, attributes := #[] }] 33 0 #[] #[])
  fields := #[]
  methods := #[k0m0]
  instanceTypes := #[]
  staticTypes := #[]
  resolved := Array.replicate 124 none
  statics := none }

def pool1 : Array CpInfo := pool [(2, .class_ 4), (1, u "java/lang/Object"), (0, u "<init>"), (0, u "()V"), (0, .long 2), (1, .long 14181476777654086739), (1, .methodref 12 13), (0, .class_ 14), (0, .nameAndType 15 16), (0, u "com/example/naqsh/naqsh/mining/TransactionSetsFingerprintPinLaw"), (0, u "inverse"), (0, u "(J)J"), (0, .long 18397679294719823053), (1, .long 11400714819323198485), (1, .long 4), (1, .long 6), (1, .methodref 26 27), (0, .class_ 28), (0, .nameAndType 29 30), (0, u "com/example/naqsh/naqsh/mining/TransactionSets"), (0, u "fingerprint"), (0, u "([JII)J"), (0, .methodref 12 32), (0, .nameAndType 33 16), (0, u "unmix"), (2, u "law"), (0, u "(JJJJJI)Z")] 5

def k1m0 : Method := { name := "<init>", desc := "()V", sig := { parameters := [], returnType := none }, accessFlags := 1, code := none }
def k1c1 : Code := { maxStack := 8, maxLocals := 4, code := method_2_code, exceptionTable := #[], attributes := #[] }
def k1m1 : Method := { name := "inverse", desc := "(J)J", sig := { parameters := [.long], returnType := some .long }, accessFlags := 10, code := some k1c1 }
def k1c2 : Code := { maxStack := 5, maxLocals := 4, code := method_3_code, exceptionTable := #[], attributes := #[] }
def k1m2 : Method := { name := "unmix", desc := "(J)J", sig := { parameters := [.long], returnType := some .long }, accessFlags := 10, code := some k1c2 }
def k1c3 : Code := { maxStack := 8, maxLocals := 20, code := code, exceptionTable := #[], attributes := #[] }
def k1m3 : Method := { name := "law", desc := "(JJJJJI)Z", sig := { parameters := [.long, .long, .long, .long, .long, .int], returnType := some .boolean }, accessFlags := 9, code := some k1c3 }
/-- com/example/naqsh/naqsh/mining/TransactionSetsFingerprintPinLaw -/
def k1 : Class := { plain "com/example/naqsh/naqsh/mining/TransactionSetsFingerprintPinLaw" (some 0) with
  accessFlags := 49
  interfaces := #[]
  cf := some (fileOf pool1 12 #[] #[{ accessFlags := 1, nameIndex := 5, descriptorIndex := 6, attributes := #[] }, { accessFlags := 10, nameIndex := 15, descriptorIndex := 16, attributes := #[] }, { accessFlags := 10, nameIndex := 33, descriptorIndex := 16, attributes := #[] }, { accessFlags := 9, nameIndex := 36, descriptorIndex := 37, attributes := #[] }] 49 2 #[] #[])
  fields := #[]
  methods := #[k1m0, k1m1, k1m2, k1m3]
  instanceTypes := #[]
  staticTypes := #[]
  resolved := Array.replicate 43 none
  statics := none }

def pool2 : Array CpInfo := pool [(2, .class_ 4), (1, u "java/lang/Object"), (3, .class_ 10), (1, u "com/example/naqsh/naqsh/mining/TransactionSets"), (0, u "itemsets"), (0, u "[I"), (2, u "columnSets"), (0, u "[J"), (2, u "words"), (0, u "I"), (2, u "maxLength"), (7, u "numbering"), (0, u "Lcom/example/naqsh/naqsh/mining/Numbering;"), (14, .long 11400714819323198485), (1, .long 2), (1, .long 18397679294719823053), (1, .long 14181476777654086739), (62, u "fingerprint"), (0, u "([JII)J")] 48

def k2c0 : Code := { maxStack := 10, maxLocals := 7, code := prog_59_method_3_code, exceptionTable := #[], attributes := #[] }
def k2m0 : Method := { name := "fingerprint", desc := "([JII)J", sig := { parameters := [(.array .long), .int, .int], returnType := some .long }, accessFlags := 8, code := some k2c0 }
/-- com/example/naqsh/naqsh/mining/TransactionSets -/
def k2 : Class := { plain "com/example/naqsh/naqsh/mining/TransactionSets" (some 0) with
  accessFlags := 48
  interfaces := #[]
  cf := some (fileOf pool2 8 #[] #[{ accessFlags := 8, nameIndex := 116, descriptorIndex := 117, attributes := #[] }] 48 2 #[] #[{ accessFlags := 18, nameIndex := 15, descriptorIndex := 16, attributes := #[] }, { accessFlags := 18, nameIndex := 19, descriptorIndex := 20, attributes := #[] }, { accessFlags := 18, nameIndex := 23, descriptorIndex := 20, attributes := #[] }, { accessFlags := 18, nameIndex := 31, descriptorIndex := 32, attributes := #[] }, { accessFlags := 2, nameIndex := 11, descriptorIndex := 12, attributes := #[] }])
  fields := #[{ name := "columnSets", type := (.array .long), accessFlags := 18, slot := 0, constantValue := 0 }, { name := "words", type := .int, accessFlags := 18, slot := 1, constantValue := 0 }, { name := "maxLength", type := .int, accessFlags := 18, slot := 2, constantValue := 0 }, { name := "numbering", type := (.object "com/example/naqsh/naqsh/mining/Numbering"), accessFlags := 18, slot := 3, constantValue := 0 }, { name := "itemsets", type := (.array .int), accessFlags := 2, slot := 4, constantValue := 0 }]
  methods := #[k2m0]
  instanceTypes := #[(.array .long), .int, .int, (.object "com/example/naqsh/naqsh/mining/Numbering"), (.array .int)]
  staticTypes := #[]
  resolved := Array.replicate 166 none
  statics := none }

def pool3 : Array CpInfo := pool [(1, u "java/lang/Cloneable"), (0, .class_ 1), (0, u "java/lang/Object"), (0, .class_ 3)] 3

/-- java/lang/Cloneable -/
def k3 : Class := { plain "java/lang/Cloneable" (some 0) with
  accessFlags := 1537
  interfaces := #[]
  cf := some (fileOf pool3 2 #[] #[] 1537 4 #[] #[])
  fields := #[]
  methods := #[]
  instanceTypes := #[]
  staticTypes := #[]
  resolved := Array.replicate 8 none
  statics := none }

def pool4 : Array CpInfo := pool [(1, u "java/io/Serializable"), (0, .class_ 1), (0, u "java/lang/Object"), (0, .class_ 3)] 3

/-- java/io/Serializable -/
def k4 : Class := { plain "java/io/Serializable" (some 0) with
  accessFlags := 1537
  interfaces := #[]
  cf := some (fileOf pool4 2 #[] #[] 1537 4 #[] #[])
  fields := #[]
  methods := #[]
  instanceTypes := #[]
  staticTypes := #[]
  resolved := Array.replicate 8 none
  statics := none }

/-- the primitive byte -/
def k5 : Class := { plain "byte" none with kind := .primitive 'B', accessFlags := 0x411 }
/-- [B -/
def k6 : Class := { plain "[B" (some 0) with kind := .array 5 .byte, interfaces := #[3, 4], accessFlags := 1041 }

/-- the primitive int -/
def k7 : Class := { plain "int" none with kind := .primitive 'I', accessFlags := 0x411 }
/-- [I -/
def k8 : Class := { plain "[I" (some 0) with kind := .array 7 .int, interfaces := #[3, 4], accessFlags := 1041 }

/-- the primitive long -/
def k9 : Class := { plain "long" none with kind := .primitive 'J', accessFlags := 0x411 }
/-- [J -/
def k10 : Class := { plain "[J" (some 0) with kind := .array 9 .long, interfaces := #[3, 4], accessFlags := 1041 }

def heap : Heap := #[]
def classes : Array Class := #[k0, k1, k2, k3, k4, k5, k6, k7, k8, k9, k10]
def interned : List (Array UInt16 × Addr) := []
def slotsUsed : Nat := 0
def theMethod : MethodId := ⟨1, 3⟩
def args0 : Array Value := #[.long 5, .long 6, .long 7, .long 8, .long 9, .int 3]
def aboutOver (below : List Frame) : State where
  vm := { classes := classes, interned := interned.toArray }
  heap := heap
  slotsUsed := slotsUsed
  threads := #[{ frames := .invoking theMethod args0 :: below }]
def below0 : List Frame := [.native { method := ⟨0, 0⟩, args := #[] }]
def about1 : State := aboutOver below0
def p0 : Program := .bare "" "" ""
def e0 : Env := launch0.env 0 0 0
theorem w_frames : about1.frames = Frame.invoking theMethod args0 :: below0 := rfl
set_option maxRecDepth 65536 in
theorem w_args : argsFit about1.vm theMethod args0 = true := by decide +kernel
set_option maxRecDepth 65536 in
theorem w_heap : heapFits about1 = true := by decide +kernel
set_option maxRecDepth 65536 in
theorem w_runnable : about1.curStatus? = some .runnable := by decide +kernel
set_option maxRecDepth 65536 in
theorem w_alone : about1.alone = true := by decide +kernel
set_option maxRecDepth 65536 in
theorem w_named : about1.methodNamed? x = some theMethod := by decide +kernel
set_option maxRecDepth 65536 in
theorem w_hears : about1.hears theMethod below0 = true := by decide +kernel
set_option maxRecDepth 65536 in
theorem w_ripe : about1.ripe theMethod args0 below0 = true := by decide +kernel
theorem w_running : about1.status = .running := rfl
set_option maxRecDepth 65536 in
theorem w_room : about1.hasRoom e0.platform room_1 = true :=
  launch0.hasRoom_least _ room_1 (by decide +kernel) (by decide +kernel) (by decide +kernel) (by decide +kernel) (by decide +kernel) (by decide +kernel)
theorem allAtoms_all (ts : List Jvm.Cond) (a : Array Jvm.Value) (st : Jvm.State) : (allAtoms ts).before a st = ts.all (fun c => c.before a st) := by
  induction ts with
  | nil => rfl
  | cons c t ih =>
    show (Jvm.Cond.and c (allAtoms t)).before a st = _
    rw [Jvm.Cond.before_and, ih, List.all_cons]
def words1 : List Jvm.Cond := Jvm.Cond.code x code maxLocals ret :: tables_1
/-- a 'code' word, met by the world's own term for the bytes: nothing is compared byte by byte -/
theorem code_word {y : MethodName} {bytes : ByteArray} {mx : Nat} {rt : Option FieldType} {a : Array Value} {s : State} {m : MethodId} {meth : Method} {c : Code} (h1 : s.methodNamed? y = some m) (h2 : s.vm.method? m = some meth) (h3 : meth.code = some c) (h4 : c.code = bytes)
    (h5 : (c.maxLocals == mx && c.exceptionTable.isEmpty && decide (c.maxStack ≤ mostOperands) && decide (meth.sig.returnType = rt) && !meth.locks && decide (parseMethodDescriptor y.desc = some meth.sig)) = true) : (Jvm.Cond.code y bytes mx rt).before a s = true := by
  simp only [Bool.and_eq_true, beq_iff_eq, Bool.not_eq_true', decide_eq_true_eq] at h5
  obtain ⟨⟨⟨⟨⟨g1, g2⟩, g3⟩, g4⟩, g5⟩, g6⟩ := h5
  simp [Cond.before, Cond.holds, Cond.value, h1, h2, h3, h4, g1, g2, g3, g4, g5, g6]
def isCode : Jvm.Cond → Bool
  | .code _ _ _ _ => true
  | _ => false
theorem all_split {L : List Jvm.Cond} {P : Jvm.Cond → Bool} (h1 : L.all (fun c => isCode c || P c) = true) (h2 : ∀ c ∈ L.filter isCode, P c = true) : L.all P = true := by
  refine List.all_eq_true.mpr fun c hc => ?_
  have h := List.all_eq_true.mp h1 c hc
  rcases Bool.eq_false_or_eq_true (isCode c) with hi | hi
  · exact h2 c (List.mem_filter.mpr ⟨hc, hi⟩)
  · simpa [hi] using h
set_option maxRecDepth 65536 in
theorem w_c0 : (Jvm.Cond.code x code maxLocals ret).before args0 about1 = true := code_word (m := ⟨1, 3⟩) (meth := k1m3) (c := k1c3) (by decide +kernel) rfl rfl rfl (by decide +kernel)
set_option maxRecDepth 65536 in
theorem w_c1 : (Jvm.Cond.code ({ cls := "com/example/naqsh/naqsh/mining/TransactionSets", name := "fingerprint", desc := "([JII)J" } : Jvm.MethodName) prog_59_method_3_code (7 : Nat) (Option.some Jvm.ClassFile.FieldType.long)).before args0 about1 = true := code_word (m := ⟨2, 0⟩) (meth := k2m0) (c := k2c0) (by decide +kernel) rfl rfl rfl (by decide +kernel)
set_option maxRecDepth 65536 in
theorem w_c2 : (Jvm.Cond.code ({ cls := "com/example/naqsh/naqsh/mining/TransactionSetsFingerprintPinLaw", name := "unmix", desc := "(J)J" } : Jvm.MethodName) method_3_code (4 : Nat) (Option.some Jvm.ClassFile.FieldType.long)).before args0 about1 = true := code_word (m := ⟨1, 2⟩) (meth := k1m2) (c := k1c2) (by decide +kernel) rfl rfl rfl (by decide +kernel)
set_option maxRecDepth 65536 in
theorem w_c3 : (Jvm.Cond.code ({ cls := "com/example/naqsh/naqsh/mining/TransactionSetsFingerprintPinLaw", name := "inverse", desc := "(J)J" } : Jvm.MethodName) method_2_code (4 : Nat) (Option.some Jvm.ClassFile.FieldType.long)).before args0 about1 = true := code_word (m := ⟨1, 1⟩) (meth := k1m1) (c := k1c1) (by decide +kernel) rfl rfl rfl (by decide +kernel)
def codes1 : List Jvm.Cond := [Jvm.Cond.code x code maxLocals ret, Jvm.Cond.code ({ cls := "com/example/naqsh/naqsh/mining/TransactionSets", name := "fingerprint", desc := "([JII)J" } : Jvm.MethodName) prog_59_method_3_code (7 : Nat) (Option.some Jvm.ClassFile.FieldType.long), Jvm.Cond.code ({ cls := "com/example/naqsh/naqsh/mining/TransactionSetsFingerprintPinLaw", name := "unmix", desc := "(J)J" } : Jvm.MethodName) method_3_code (4 : Nat) (Option.some Jvm.ClassFile.FieldType.long), Jvm.Cond.code ({ cls := "com/example/naqsh/naqsh/mining/TransactionSetsFingerprintPinLaw", name := "inverse", desc := "(J)J" } : Jvm.MethodName) method_2_code (4 : Nat) (Option.some Jvm.ClassFile.FieldType.long)]
set_option maxRecDepth 65536 in
theorem codes_eq : words1.filter isCode = codes1 := rfl
theorem w_codes : ∀ c ∈ words1.filter isCode, c.before args0 about1 = true := by
  rw [codes_eq]
  intro c hc
  simp only [codes1, List.mem_cons, List.not_mem_nil, or_false] at hc
  rcases hc with rfl | rfl | rfl | rfl
  · exact w_c0
  · exact w_c1
  · exact w_c2
  · exact w_c3
set_option maxRecDepth 65536 in
theorem w_t1 : words1.all (fun c => isCode c || c.before args0 about1) = true := by decide +kernel
theorem w_tables : (allAtoms (Jvm.Cond.code x code maxLocals ret :: tables_1)).before args0 about1 = true := by
  rw [allAtoms_all]
  show words1.all (fun c => c.before args0 about1) = true
  refine all_split ?_ w_codes
  rw [w_t1]
set_option maxRecDepth 65536 in
theorem w_case : (Jvm.Cond.and given_1 narrow_1).before args0 about1 = true := by decide +kernel
theorem w_applies : (headSpec (Jvm.Cond.code x code maxLocals ret :: tables_1) room_1).applies x e0.platform about1 = true :=
  (Spec.applies_iff w_frames).mpr ⟨w_running, w_runnable, w_alone, w_named, w_hears, w_ripe, w_room, w_tables⟩
theorem atStart : AtStart classFile x code maxLocals ret World_1 tables_1 room_1 Calls_1 rest_1 Pre_1 launch0 p0 e0 about1 theMethod args0 below0 :=
  ⟨lists_1, trivial, launch0.admits_env _ _ _, launch0.least_env, fairChoices_fair.cas, fairChoices_fair.clock, w_frames, w_args, w_heap, w_applies, trivial, trivial, w_case⟩
end start1
theorem witness_1 : WitnessClaimed_1 := ⟨start1.p0, start1.e0, start1.about1, start1.theMethod, start1.args0, start1.below0, start1.atStart⟩
end Jvm.Pilot.@@N@@
