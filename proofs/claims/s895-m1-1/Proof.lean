import JvmDerived
import JvmDerived.Pilot.@@N@@Statement
import JvmDerived.Pilot.@@N@@Code
set_option linter.unusedVariables false
set_option linter.unusedSimpArgs false
namespace Jvm.RoadKit
open Sem ClassFile Op Lib Jvm.Stand Jvm.Free Jvm.LawKit
section New
variable {p : Program} {l : Launch} {e : Env} {R : Room} {s : State} {m : MethodId} {args : Array Value} {below : List Frame} {meth : Method} {c : Code} {T : State} {locs : List Loc} {cells slots : Nat}
theorem retI (X : Stand p l e R s m args below meth c T locs cells slots) (hx : p.tables.exec = Jvm.exec) {pc : Nat} {Ls : Array Slot} {z : Int32} {rest : List Value} (hret : meth.sig.returnType = some .int) (hd : decode c.code pc = .ok (.ireturn, 1)) {fs : List Frame}
    (hl : ∀ (f : JFrame) (acts : List Action), f.method = m → f.locked = none → f.entered = [] → (doReturn e (T.setTop f) acts (some (.int z))).1 = T.setFrames fs) : Steps p.tables e below (T.setTop (mkF m pc Ls (.int z :: rest))) (T.setFrames fs) := by
  have hm' : T.vm.method? m = some meth := X.method'
  have hn : narrow .int (.int z) = .int z := rfl
  show Steps p.tables e below (T.setTop { method := m, pc := pc, locals := Ls, stack := _ :: rest, locked := none }) _
  jvm_step X.here [X.here.top, hx, hd, hm', hret, hn]
  first | (intro acts; rw [hl _ acts rfl rfl rfl]) | rw [hl _ _ rfl rfl rfl]
  exact Steps.refl _
end New
end Jvm.RoadKit
namespace Jvm.Pilot.@@N@@
open Jvm Jvm.ClassFile Sem Op Lib Jvm.Free Jvm.Stand Jvm.LawKit Jvm.RoadKit Bundle Jvm.Pilot.@@N@@.Jvm.D
def own_rem (x y : Int32) : Int32 := x - (x / y) * y
section OwnSteps
variable {tb : Tables} [Ours tb] {e : Env} {below : List Frame} {T target : State} {m : MethodId} {c : Code} {pc : Nat} {ls : Array Slot} {st : List Value}
theorem own_iloadN (h : At T m c below) (hx : tb.exec = Jvm.exec) {k : Fin 4} {v : Int32} (hd : decode c.code pc = .ok (.iload_n k, 1)) (hl : ls[k.val]? = some (.val (.int v))) (hr : Steps tb e below (T.setTop (mkF m (pc + 1) ls (.int v :: st))) target) : Steps tb e below (T.setTop (mkF m pc ls (st))) target := XS.iloadN h hx rfl hd hl hr
theorem own_iload (h : At T m c below) (hx : tb.exec = Jvm.exec) {k : Nat} {v : Int32} (hd : decode c.code pc = .ok (.iload k, 2)) (hl : ls[k]? = some (.val (.int v))) (hr : Steps tb e below (T.setTop (mkF m (pc + 2) ls (.int v :: st))) target) : Steps tb e below (T.setTop (mkF m pc ls (st))) target := XS.iload h hx rfl hd hl hr
theorem own_istoreN (h : At T m c below) (hx : tb.exec = Jvm.exec) {k : Fin 4} {v : Int32} {l' : Array Slot} (hd : decode c.code pc = .ok (.istore_n k, 1)) (hl : storeLocals ls k.val (.int v) = some l') (hr : Steps tb e below (T.setTop (mkF m (pc + 1) l' (st))) target) : Steps tb e below (T.setTop (mkF m pc ls (.int v :: st))) target := XS.istoreN h hx rfl hd rfl hl hr
theorem own_istore (h : At T m c below) (hx : tb.exec = Jvm.exec) {k : Nat} {v : Int32} {l' : Array Slot} (hd : decode c.code pc = .ok (.istore k, 2)) (hl : storeLocals ls k (.int v) = some l') (hr : Steps tb e below (T.setTop (mkF m (pc + 2) l' (st))) target) : Steps tb e below (T.setTop (mkF m pc ls (.int v :: st))) target := XS.istore h hx rfl hd rfl hl hr
theorem own_lloadN (h : At T m c below) (hx : tb.exec = Jvm.exec) {k : Fin 4} {v : Int64} (hd : decode c.code pc = .ok (.lload_n k, 1)) (hl : ls[k.val]? = some (.val (.long v))) (hr : Steps tb e below (T.setTop (mkF m (pc + 1) ls (.long v :: st))) target) : Steps tb e below (T.setTop (mkF m pc ls (st))) target := XS.lloadN h hx rfl hd hl hr
theorem own_lload (h : At T m c below) (hx : tb.exec = Jvm.exec) {k : Nat} {v : Int64} (hd : decode c.code pc = .ok (.lload k, 2)) (hl : ls[k]? = some (.val (.long v))) (hr : Steps tb e below (T.setTop (mkF m (pc + 2) ls (.long v :: st))) target) : Steps tb e below (T.setTop (mkF m pc ls (st))) target := XS.lload h hx rfl hd hl hr
theorem own_lstoreN (h : At T m c below) (hx : tb.exec = Jvm.exec) {k : Fin 4} {v : Int64} {l' : Array Slot} (hd : decode c.code pc = .ok (.lstore_n k, 1)) (hl : storeLocals ls k.val (.long v) = some l') (hr : Steps tb e below (T.setTop (mkF m (pc + 1) l' (st))) target) : Steps tb e below (T.setTop (mkF m pc ls (.long v :: st))) target := XS.lstoreN h hx rfl hd rfl hl hr
theorem own_lstore (h : At T m c below) (hx : tb.exec = Jvm.exec) {k : Nat} {v : Int64} {l' : Array Slot} (hd : decode c.code pc = .ok (.lstore k, 2)) (hl : storeLocals ls k (.long v) = some l') (hr : Steps tb e below (T.setTop (mkF m (pc + 2) l' (st))) target) : Steps tb e below (T.setTop (mkF m pc ls (.long v :: st))) target := XS.lstore h hx rfl hd rfl hl hr
theorem own_dloadN (h : At T m c below) (hx : tb.exec = Jvm.exec) {k : Fin 4} {v : UInt64} (hd : decode c.code pc = .ok (.dload_n k, 1)) (hl : ls[k.val]? = some (.val (.double v))) (hr : Steps tb e below (T.setTop (mkF m (pc + 1) ls (.double v :: st))) target) : Steps tb e below (T.setTop (mkF m pc ls (st))) target := XS.dloadN h hx rfl hd hl hr
theorem own_dload (h : At T m c below) (hx : tb.exec = Jvm.exec) {k : Nat} {v : UInt64} (hd : decode c.code pc = .ok (.dload k, 2)) (hl : ls[k]? = some (.val (.double v))) (hr : Steps tb e below (T.setTop (mkF m (pc + 2) ls (.double v :: st))) target) : Steps tb e below (T.setTop (mkF m pc ls (st))) target := XS.dload h hx rfl hd hl hr
theorem own_dstoreN (h : At T m c below) (hx : tb.exec = Jvm.exec) {k : Fin 4} {v : UInt64} {l' : Array Slot} (hd : decode c.code pc = .ok (.dstore_n k, 1)) (hl : storeLocals ls k.val (.double v) = some l') (hr : Steps tb e below (T.setTop (mkF m (pc + 1) l' (st))) target) : Steps tb e below (T.setTop (mkF m pc ls (.double v :: st))) target := XS.dstoreN h hx rfl hd rfl hl hr
theorem own_dstore (h : At T m c below) (hx : tb.exec = Jvm.exec) {k : Nat} {v : UInt64} {l' : Array Slot} (hd : decode c.code pc = .ok (.dstore k, 2)) (hl : storeLocals ls k (.double v) = some l') (hr : Steps tb e below (T.setTop (mkF m (pc + 2) l' (st))) target) : Steps tb e below (T.setTop (mkF m pc ls (.double v :: st))) target := XS.dstore h hx rfl hd rfl hl hr
theorem own_aloadN (h : At T m c below) (hx : tb.exec = Jvm.exec) {k : Fin 4} {v : Value} (hd : decode c.code pc = .ok (.aload_n k, 1)) (hl : ls[k.val]? = some (.val v)) (hv : v.isRef = true) (hr : Steps tb e below (T.setTop (mkF m (pc + 1) ls (v :: st))) target) : Steps tb e below (T.setTop (mkF m pc ls (st))) target := XS.aloadN h hx rfl hd hl hv hr
theorem own_aload (h : At T m c below) (hx : tb.exec = Jvm.exec) {k : Nat} {v : Value} (hd : decode c.code pc = .ok (.aload k, 2)) (hl : ls[k]? = some (.val v)) (hv : v.isRef = true) (hr : Steps tb e below (T.setTop (mkF m (pc + 2) ls (v :: st))) target) : Steps tb e below (T.setTop (mkF m pc ls (st))) target := XS.aload h hx rfl hd hl hv hr
theorem own_astoreN (h : At T m c below) (hx : tb.exec = Jvm.exec) {k : Fin 4} {v : Value} {l' : Array Slot} (hd : decode c.code pc = .ok (.astore_n k, 1)) (hv : v.isRef = true) (hl : storeLocals ls k.val v = some l') (hr : Steps tb e below (T.setTop (mkF m (pc + 1) l' (st))) target) : Steps tb e below (T.setTop (mkF m pc ls (v :: st))) target := XS.astoreN h hx rfl hd rfl hv hl hr
theorem own_astore (h : At T m c below) (hx : tb.exec = Jvm.exec) {k : Nat} {v : Value} {l' : Array Slot} (hd : decode c.code pc = .ok (.astore k, 2)) (hv : v.isRef = true) (hl : storeLocals ls k v = some l') (hr : Steps tb e below (T.setTop (mkF m (pc + 2) l' (st))) target) : Steps tb e below (T.setTop (mkF m pc ls (v :: st))) target := XS.astore h hx rfl hd rfl hv hl hr
theorem own_iconst (h : At T m c below) (hx : tb.exec = Jvm.exec) {i : Int} (z : Int32) (hd : decode c.code pc = .ok (.iconst i, 1)) (hz : Int32.ofInt i = z) (hr : Steps tb e below (T.setTop (mkF m (pc + 1) ls (.int z :: st))) target) : Steps tb e below (T.setTop (mkF m pc ls st)) target := by
  subst hz; exact XS.iconst h hx rfl hd hr
theorem own_bipush (h : At T m c below) (hx : tb.exec = Jvm.exec) {i : Int} (z : Int32) (hd : decode c.code pc = .ok (.bipush i, 2)) (hz : (Int8.ofInt i).toInt32 = z) (hr : Steps tb e below (T.setTop (mkF m (pc + 2) ls (.int z :: st))) target) : Steps tb e below (T.setTop (mkF m pc ls st)) target := by
  subst hz; exact XS.bipush h hx rfl hd hr
theorem own_sipush (h : At T m c below) (hx : tb.exec = Jvm.exec) {i : Int} (z : Int32) (hd : decode c.code pc = .ok (.sipush i, 3)) (hz : (Int16.ofInt i).toInt32 = z) (hr : Steps tb e below (T.setTop (mkF m (pc + 3) ls (.int z :: st))) target) : Steps tb e below (T.setTop (mkF m pc ls st)) target := by
  subst hz; exact XS.sipush h hx rfl hd hr
theorem own_lconst0 (h : At T m c below) (hx : tb.exec = Jvm.exec) (hd : decode c.code pc = .ok (.lconst 0, 1)) (hr : Steps tb e below (T.setTop (mkF m (pc + 1) ls (.long (0 : Int64) :: st))) target) : Steps tb e below (T.setTop (mkF m pc ls st)) target := XS.lconst h hx rfl hd hr
theorem own_lconst1 (h : At T m c below) (hx : tb.exec = Jvm.exec) (hd : decode c.code pc = .ok (.lconst 1, 1)) (hr : Steps tb e below (T.setTop (mkF m (pc + 1) ls (.long (1 : Int64) :: st))) target) : Steps tb e below (T.setTop (mkF m pc ls st)) target := XS.lconst h hx rfl hd hr
theorem own_aconstNull (h : At T m c below) (hx : tb.exec = Jvm.exec)  (hd : decode c.code pc = .ok (.aconst_null, 1)) (hr : Steps tb e below (T.setTop (mkF m (pc + 1) ls (.null :: st))) target) : Steps tb e below (T.setTop (mkF m pc ls (st))) target := XS.aconstNull h hx rfl hd hr
theorem own_iadd (h : At T m c below) (hx : tb.exec = Jvm.exec) {x y : Int32} (hd : decode c.code pc = .ok (.iadd, 1)) (hr : Steps tb e below (T.setTop (mkF m (pc + 1) ls (.int (x + y) :: st))) target) : Steps tb e below (T.setTop (mkF m pc ls (.int y :: .int x :: st))) target := XS.iadd h hx rfl hd rfl hr
theorem own_isub (h : At T m c below) (hx : tb.exec = Jvm.exec) {x y : Int32} (hd : decode c.code pc = .ok (.isub, 1)) (hr : Steps tb e below (T.setTop (mkF m (pc + 1) ls (.int (x - y) :: st))) target) : Steps tb e below (T.setTop (mkF m pc ls (.int y :: .int x :: st))) target := XS.isub h hx rfl hd rfl hr
theorem own_imul (h : At T m c below) (hx : tb.exec = Jvm.exec) {x y : Int32} (hd : decode c.code pc = .ok (.imul, 1)) (hr : Steps tb e below (T.setTop (mkF m (pc + 1) ls (.int (x * y) :: st))) target) : Steps tb e below (T.setTop (mkF m pc ls (.int y :: .int x :: st))) target := XS.imul h hx rfl hd rfl hr
theorem own_iand (h : At T m c below) (hx : tb.exec = Jvm.exec) {x y : Int32} (hd : decode c.code pc = .ok (.iand, 1)) (hr : Steps tb e below (T.setTop (mkF m (pc + 1) ls (.int (x &&& y) :: st))) target) : Steps tb e below (T.setTop (mkF m pc ls (.int y :: .int x :: st))) target := XS.iand h hx rfl hd rfl hr
theorem own_ior (h : At T m c below) (hx : tb.exec = Jvm.exec) {x y : Int32} (hd : decode c.code pc = .ok (.ior, 1)) (hr : Steps tb e below (T.setTop (mkF m (pc + 1) ls (.int (x ||| y) :: st))) target) : Steps tb e below (T.setTop (mkF m pc ls (.int y :: .int x :: st))) target := XS.ior h hx rfl hd rfl hr
theorem own_ixor (h : At T m c below) (hx : tb.exec = Jvm.exec) {x y : Int32} (hd : decode c.code pc = .ok (.ixor, 1)) (hr : Steps tb e below (T.setTop (mkF m (pc + 1) ls (.int (x ^^^ y) :: st))) target) : Steps tb e below (T.setTop (mkF m pc ls (.int y :: .int x :: st))) target := XS.ixor h hx rfl hd rfl hr
theorem own_idiv (h : At T m c below) (hx : tb.exec = Jvm.exec) {x y : Int32} (hd : decode c.code pc = .ok (.idiv, 1)) (hy : y ≠ 0) (hr : Steps tb e below (T.setTop (mkF m (pc + 1) ls (.int (x / y) :: st))) target) : Steps tb e below (T.setTop (mkF m pc ls (.int y :: .int x :: st))) target := XS.idiv h hx rfl hd rfl hy hr
theorem own_ladd (h : At T m c below) (hx : tb.exec = Jvm.exec) {x y : Int64} (hd : decode c.code pc = .ok (.ladd, 1)) (hr : Steps tb e below (T.setTop (mkF m (pc + 1) ls (.long (x + y) :: st))) target) : Steps tb e below (T.setTop (mkF m pc ls (.long y :: .long x :: st))) target := XS.ladd h hx rfl hd rfl hr
theorem own_lsub (h : At T m c below) (hx : tb.exec = Jvm.exec) {x y : Int64} (hd : decode c.code pc = .ok (.lsub, 1)) (hr : Steps tb e below (T.setTop (mkF m (pc + 1) ls (.long (x - y) :: st))) target) : Steps tb e below (T.setTop (mkF m pc ls (.long y :: .long x :: st))) target := XS.lsub h hx rfl hd rfl hr
theorem own_lmul (h : At T m c below) (hx : tb.exec = Jvm.exec) {x y : Int64} (hd : decode c.code pc = .ok (.lmul, 1)) (hr : Steps tb e below (T.setTop (mkF m (pc + 1) ls (.long (x * y) :: st))) target) : Steps tb e below (T.setTop (mkF m pc ls (.long y :: .long x :: st))) target := XS.lmul h hx rfl hd rfl hr
theorem own_land (h : At T m c below) (hx : tb.exec = Jvm.exec) {x y : Int64} (hd : decode c.code pc = .ok (.land, 1)) (hr : Steps tb e below (T.setTop (mkF m (pc + 1) ls (.long (x &&& y) :: st))) target) : Steps tb e below (T.setTop (mkF m pc ls (.long y :: .long x :: st))) target := XS.land h hx rfl hd rfl hr
theorem own_lor (h : At T m c below) (hx : tb.exec = Jvm.exec) {x y : Int64} (hd : decode c.code pc = .ok (.lor, 1)) (hr : Steps tb e below (T.setTop (mkF m (pc + 1) ls (.long (x ||| y) :: st))) target) : Steps tb e below (T.setTop (mkF m pc ls (.long y :: .long x :: st))) target := XS.lor h hx rfl hd rfl hr
theorem own_lxor (h : At T m c below) (hx : tb.exec = Jvm.exec) {x y : Int64} (hd : decode c.code pc = .ok (.lxor, 1)) (hr : Steps tb e below (T.setTop (mkF m (pc + 1) ls (.long (x ^^^ y) :: st))) target) : Steps tb e below (T.setTop (mkF m pc ls (.long y :: .long x :: st))) target := XS.lxor h hx rfl hd rfl hr
theorem own_ldiv (h : At T m c below) (hx : tb.exec = Jvm.exec) {x y : Int64} (hd : decode c.code pc = .ok (.ldiv, 1)) (hy : y ≠ 0) (hr : Steps tb e below (T.setTop (mkF m (pc + 1) ls (.long (x / y) :: st))) target) : Steps tb e below (T.setTop (mkF m pc ls (.long y :: .long x :: st))) target := XS.ldiv h hx rfl hd rfl hy hr
theorem own_irem (h : At T m c below) (hx : tb.exec = Jvm.exec) {x y : Int32} (hd : decode c.code pc = .ok (.irem, 1)) (hy : y ≠ 0) (hr : Steps tb e below (T.setTop (mkF m (pc + 1) ls (.int (own_rem x y) :: st))) target) : Steps tb e below (T.setTop (mkF m pc ls (.int y :: .int x :: st))) target := XS.irem h hx rfl hd rfl hy hr
theorem own_ishl (h : At T m c below) (hx : tb.exec = Jvm.exec) {x : Int32} {y : Int32} (hd : decode c.code pc = .ok (.ishl, 1)) (hr : Steps tb e below (T.setTop (mkF m (pc + 1) ls (.int (x <<< (y &&& 31)) :: st))) target) : Steps tb e below (T.setTop (mkF m pc ls (.int y :: .int x :: st))) target := XS.ishl h hx rfl hd rfl hr
theorem own_ishr (h : At T m c below) (hx : tb.exec = Jvm.exec) {x : Int32} {y : Int32} (hd : decode c.code pc = .ok (.ishr, 1)) (hr : Steps tb e below (T.setTop (mkF m (pc + 1) ls (.int (x >>> (y &&& 31)) :: st))) target) : Steps tb e below (T.setTop (mkF m pc ls (.int y :: .int x :: st))) target := XS.ishr h hx rfl hd rfl hr
theorem own_iushr (h : At T m c below) (hx : tb.exec = Jvm.exec) {x : Int32} {y : Int32} (hd : decode c.code pc = .ok (.iushr, 1)) (hr : Steps tb e below (T.setTop (mkF m (pc + 1) ls (.int ((x.toUInt32 >>> (y &&& 31).toUInt32).toInt32) :: st))) target) : Steps tb e below (T.setTop (mkF m pc ls (.int y :: .int x :: st))) target := XS.iushr h hx rfl hd rfl hr
theorem own_lshl (h : At T m c below) (hx : tb.exec = Jvm.exec) {x : Int64} {y : Int32} (hd : decode c.code pc = .ok (.lshl, 1)) (hr : Steps tb e below (T.setTop (mkF m (pc + 1) ls (.long (x <<< (y &&& 0x3f).toInt64) :: st))) target) : Steps tb e below (T.setTop (mkF m pc ls (.int y :: .long x :: st))) target := XS.lshl h hx rfl hd rfl hr
theorem own_lshr (h : At T m c below) (hx : tb.exec = Jvm.exec) {x : Int64} {y : Int32} (hd : decode c.code pc = .ok (.lshr, 1)) (hr : Steps tb e below (T.setTop (mkF m (pc + 1) ls (.long (x >>> (y &&& 0x3f).toInt64) :: st))) target) : Steps tb e below (T.setTop (mkF m pc ls (.int y :: .long x :: st))) target := XS.lshr h hx rfl hd rfl hr
theorem own_lushr (h : At T m c below) (hx : tb.exec = Jvm.exec) {x : Int64} {y : Int32} (hd : decode c.code pc = .ok (.lushr, 1)) (hr : Steps tb e below (T.setTop (mkF m (pc + 1) ls (.long ((x.toUInt64 >>> (y &&& 0x3f).toInt64.toUInt64).toInt64) :: st))) target) : Steps tb e below (T.setTop (mkF m pc ls (.int y :: .long x :: st))) target := XS.lushr h hx rfl hd rfl hr
theorem own_ineg (h : At T m c below) (hx : tb.exec = Jvm.exec) {x : Int32} (hd : decode c.code pc = .ok (.ineg, 1)) (hr : Steps tb e below (T.setTop (mkF m (pc + 1) ls (.int (-x) :: st))) target) : Steps tb e below (T.setTop (mkF m pc ls (.int x :: st))) target := XS.ineg h hx rfl hd rfl hr
theorem own_lneg (h : At T m c below) (hx : tb.exec = Jvm.exec) {x : Int64} (hd : decode c.code pc = .ok (.lneg, 1)) (hr : Steps tb e below (T.setTop (mkF m (pc + 1) ls (.long (-x) :: st))) target) : Steps tb e below (T.setTop (mkF m pc ls (.long x :: st))) target := XS.lneg h hx rfl hd rfl hr
theorem own_i2l (h : At T m c below) (hx : tb.exec = Jvm.exec) {x : Int32} (hd : decode c.code pc = .ok (.i2l, 1)) (hr : Steps tb e below (T.setTop (mkF m (pc + 1) ls (.long x.toInt64 :: st))) target) : Steps tb e below (T.setTop (mkF m pc ls (.int x :: st))) target := XS.i2l h hx rfl hd rfl hr
theorem own_l2i (h : At T m c below) (hx : tb.exec = Jvm.exec) {x : Int64} (hd : decode c.code pc = .ok (.l2i, 1)) (hr : Steps tb e below (T.setTop (mkF m (pc + 1) ls (.int x.toInt32 :: st))) target) : Steps tb e below (T.setTop (mkF m pc ls (.long x :: st))) target := XS.l2i h hx rfl hd rfl hr
theorem own_i2b (h : At T m c below) (hx : tb.exec = Jvm.exec) {x : Int32} (hd : decode c.code pc = .ok (.i2b, 1)) (hr : Steps tb e below (T.setTop (mkF m (pc + 1) ls (.int x.toInt8.toInt32 :: st))) target) : Steps tb e below (T.setTop (mkF m pc ls (.int x :: st))) target := XS.i2b h hx rfl hd rfl hr
theorem own_i2s (h : At T m c below) (hx : tb.exec = Jvm.exec) {x : Int32} (hd : decode c.code pc = .ok (.i2s, 1)) (hr : Steps tb e below (T.setTop (mkF m (pc + 1) ls (.int x.toInt16.toInt32 :: st))) target) : Steps tb e below (T.setTop (mkF m pc ls (.int x :: st))) target := XS.i2s h hx rfl hd rfl hr
theorem own_i2c (h : At T m c below) (hx : tb.exec = Jvm.exec) {x : Int32} (hd : decode c.code pc = .ok (.i2c, 1)) (hr : Steps tb e below (T.setTop (mkF m (pc + 1) ls (.int x.toUInt32.toUInt16.toUInt32.toInt32 :: st))) target) : Steps tb e below (T.setTop (mkF m pc ls (.int x :: st))) target := XS.i2c h hx rfl hd rfl hr
theorem own_lcmp (h : At T m c below) (hx : tb.exec = Jvm.exec) {x y : Int64} (hd : decode c.code pc = .ok (.lcmp, 1)) (hr : Steps tb e below (T.setTop (mkF m (pc + 1) ls (.int (lcmpW x y) :: st))) target) : Steps tb e below (T.setTop (mkF m pc ls (.long y :: .long x :: st))) target := XS.lcmp h hx rfl hd rfl hr
theorem own_iinc (h : At T m c below) (hx : tb.exec = Jvm.exec) {k : Nat} {cst : Int} {x : Int32} {l' : Array Slot} (z : Int32) (hd : decode c.code pc = .ok (.iinc k cst, 3)) (hl : ls[k]? = some (.val (.int x))) (hz : Int32.ofInt cst = z) (hl' : storeLocals ls k (.int (x + z)) = some l') (hr : Steps tb e below (T.setTop (mkF m (pc + 3) l' st)) target) : Steps tb e below (T.setTop (mkF m pc ls st)) target := by
  subst hz; exact XS.iinc h hx rfl hd hl hl' hr
theorem own_dup (h : At T m c below) (hx : tb.exec = Jvm.exec) {x : Value} (hd : decode c.code pc = .ok (.dup, 1)) (hc : x.category = 1) (hr : Steps tb e below (T.setTop (mkF m (pc + 1) ls (x :: x :: st))) target) : Steps tb e below (T.setTop (mkF m pc ls (x :: st))) target := XS.dup h hx rfl hd rfl hc hr
theorem own_dupX1 (h : At T m c below) (hx : tb.exec = Jvm.exec) {x y : Value} (hd : decode c.code pc = .ok (.dup_x1, 1)) (hc : x.category = 1) (hc2 : y.category = 1) (hr : Steps tb e below (T.setTop (mkF m (pc + 1) ls (x :: y :: x :: st))) target) : Steps tb e below (T.setTop (mkF m pc ls (x :: y :: st))) target := XS.dupX1 h hx rfl hd rfl hc hc2 hr
theorem own_pop (h : At T m c below) (hx : tb.exec = Jvm.exec) {x : Value} (hd : decode c.code pc = .ok (.pop, 1)) (hc : x.category = 1) (hr : Steps tb e below (T.setTop (mkF m (pc + 1) ls (st))) target) : Steps tb e below (T.setTop (mkF m pc ls (x :: st))) target := XS.pop h hx rfl hd rfl hc hr
theorem own_goto (h : At T m c below) (hx : tb.exec = Jvm.exec) {o : Int} (pc0 pc' : Nat) (hpc : pc = pc0) (hd : decode c.code pc = .ok (.goto o, 3)) (ho : 0 ≤ (pc0 : Int) + o) (hp : ((pc0 : Int) + o).toNat = pc') (hr : Steps tb e below (T.setTop (mkF m pc' ls (st))) target) : Steps tb e below (T.setTop (mkF m pc ls (st))) target := XS.goto h hx rfl hpc hd ho hp hr
theorem own_ifYes (h : At T m c below) (hx : tb.exec = Jvm.exec) {cd : ClassFile.Cond} {o : Int} {x : Int32} (pc0 pc' : Nat) (hpc : pc = pc0) (hd : decode c.code pc = .ok (.ifCond cd o, 3)) (hc : ifCond.holds cd x = true) (ho : 0 ≤ (pc0 : Int) + o) (hp : ((pc0 : Int) + o).toNat = pc') (hr : Steps tb e below (T.setTop (mkF m pc' ls (st))) target) : Steps tb e below (T.setTop (mkF m pc ls (.int x :: st))) target := XS.ifYes h hx rfl hpc hd rfl hc ho hp hr
theorem own_ifNo (h : At T m c below) (hx : tb.exec = Jvm.exec) {cd : ClassFile.Cond} {o : Int} {x : Int32} (hd : decode c.code pc = .ok (.ifCond cd o, 3)) (hc : ifCond.holds cd x = false) (hr : Steps tb e below (T.setTop (mkF m (pc + 3) ls (st))) target) : Steps tb e below (T.setTop (mkF m pc ls (.int x :: st))) target := XS.ifNo h hx rfl hd rfl hc hr
theorem own_icmpYes (h : At T m c below) (hx : tb.exec = Jvm.exec) {cd : ClassFile.Cond} {o : Int} {x y : Int32} (pc0 pc' : Nat) (hpc : pc = pc0) (hd : decode c.code pc = .ok (.if_icmp cd o, 3)) (hc : if_icmp.holds cd x y = true) (ho : 0 ≤ (pc0 : Int) + o) (hp : ((pc0 : Int) + o).toNat = pc') (hr : Steps tb e below (T.setTop (mkF m pc' ls (st))) target) : Steps tb e below (T.setTop (mkF m pc ls (.int y :: .int x :: st))) target := XS.icmpYes h hx rfl hpc hd rfl hc ho hp hr
theorem own_icmpNo (h : At T m c below) (hx : tb.exec = Jvm.exec) {cd : ClassFile.Cond} {o : Int} {x y : Int32} (hd : decode c.code pc = .ok (.if_icmp cd o, 3)) (hc : if_icmp.holds cd x y = false) (hr : Steps tb e below (T.setTop (mkF m (pc + 3) ls (st))) target) : Steps tb e below (T.setTop (mkF m pc ls (.int y :: .int x :: st))) target := XS.icmpNo h hx rfl hd rfl hc hr
theorem own_ifnullYes (h : At T m c below) (hx : tb.exec = Jvm.exec) {o : Int} (pc0 pc' : Nat) (hpc : pc = pc0) (hd : decode c.code pc = .ok (.ifnull o, 3)) (ho : 0 ≤ (pc0 : Int) + o) (hp : ((pc0 : Int) + o).toNat = pc') (hr : Steps tb e below (T.setTop (mkF m pc' ls (st))) target) : Steps tb e below (T.setTop (mkF m pc ls (.null :: st))) target := XS.ifnullYes h hx rfl hpc hd rfl ho hp hr
theorem own_ifnullNo (h : At T m c below) (hx : tb.exec = Jvm.exec) {o : Int} {b : Addr} (hd : decode c.code pc = .ok (.ifnull o, 3)) (hr : Steps tb e below (T.setTop (mkF m (pc + 3) ls (st))) target) : Steps tb e below (T.setTop (mkF m pc ls (.ref b :: st))) target := XS.ifnullNo h hx rfl hd rfl hr
theorem own_ifnonnullYes (h : At T m c below) (hx : tb.exec = Jvm.exec) {o : Int} {b : Addr} (pc0 pc' : Nat) (hpc : pc = pc0) (hd : decode c.code pc = .ok (.ifnonnull o, 3)) (ho : 0 ≤ (pc0 : Int) + o) (hp : ((pc0 : Int) + o).toNat = pc') (hr : Steps tb e below (T.setTop (mkF m pc' ls (st))) target) : Steps tb e below (T.setTop (mkF m pc ls (.ref b :: st))) target := XS.ifnonnullYes h hx rfl hpc hd rfl ho hp hr
theorem own_ifnonnullNo (h : At T m c below) (hx : tb.exec = Jvm.exec) {o : Int} (hd : decode c.code pc = .ok (.ifnonnull o, 3)) (hr : Steps tb e below (T.setTop (mkF m (pc + 3) ls (st))) target) : Steps tb e below (T.setTop (mkF m pc ls (.null :: st))) target := XS.ifnonnullNo h hx rfl hd rfl hr
end OwnSteps
def own_by (x : Int32) : Int32 := (x.toInt8.toInt32).toInt8.toInt32
def own_lu (a : Int64) (k : Int32) : Int32 := ((a.toUInt64 >>> (k &&& 0x3f).toInt64.toUInt64).toInt64).toInt32
def own_blk (b0 b1 b2 b3 : Int32) : Int32 := ((((b0 &&& (255 : Int32)) ||| ((b1 &&& (255 : Int32)) <<< ((8 : Int32) &&& 31))) ||| ((b2 &&& (255 : Int32)) <<< ((16 : Int32) &&& 31))) ||| (b3 <<< ((24 : Int32) &&& 31)))
theorem own_bybit (x : BitVec 32) (i : Nat) (h : i < 8) : ((((x.signExtend 8).signExtend 32).signExtend 8).signExtend 32).getLsbD i = x.getLsbD i := by
  have h2 : i < 32 := by omega
  simp only [BitVec.getLsbD_signExtend, h, h2, if_true, decide_true, Bool.true_and]
theorem own_m255 (i : Nat) (hi : i < 32) : (255#32).getLsbD i = decide (i < 8) := by
  have : ∀ j : Fin 32, (255#32).getLsbD j.val = decide (j.val < 8) := by decide
  exact this ⟨i, hi⟩
theorem own_bybv (x : BitVec 32) : (((x.signExtend 8).signExtend 32).signExtend 8).signExtend 32 &&& 255#32 = x &&& 255#32 := by
  apply BitVec.eq_of_getLsbD_eq
  intro i hi
  simp only [BitVec.getLsbD_and, own_m255 i hi]
  by_cases h8 : i < 8
  · rw [own_bybit x i h8]
  · simp only [h8, decide_false, Bool.and_false]
theorem own_by255 (x : Int32) : own_by x &&& (255 : Int32) = x &&& (255 : Int32) := by
  apply Int32.toBitVec_inj.mp
  exact own_bybv x.toBitVec
theorem own_by24bv (x : BitVec 32) : ((((x.signExtend 8).signExtend 32).signExtend 8).signExtend 32) <<< 24 = x <<< 24 := by
  apply BitVec.eq_of_getLsbD_eq
  intro i hi
  simp only [BitVec.getLsbD_shiftLeft]
  by_cases h8 : i < 24
  · simp only [h8, decide_true, Bool.not_true, Bool.and_false, Bool.false_and]
  · rw [own_bybit x (i - 24) (by omega)]
theorem own_by24 (x : Int32) : own_by x <<< ((24 : Int32) &&& 31) = x <<< ((24 : Int32) &&& 31) := by
  apply Int32.toBitVec_inj.mp
  exact own_by24bv x.toBitVec
theorem own_blkbv (x : BitVec 64) : ((((x.setWidth 32 &&& 255#32) ||| (((x >>> 8).setWidth 32 &&& 255#32) <<< 8)) ||| (((x >>> 16).setWidth 32 &&& 255#32) <<< 16)) ||| ((x >>> 24).setWidth 32 <<< 24)) = x.setWidth 32 := by
  apply BitVec.eq_of_getLsbD_eq
  intro i hi
  have h255 : ∀ i, i < 32 → (255#32).getLsbD i = decide (i < 8) := by
    intro i hi
    have : ∀ j : Fin 32, (255#32).getLsbD j.val = decide (j.val < 8) := by decide
    exact this ⟨i, hi⟩
  have a1 := h255 i hi
  have a2 := h255 (i - 8) (by omega)
  have a3 := h255 (i - 16) (by omega)
  simp only [BitVec.getLsbD_or, BitVec.getLsbD_and, BitVec.getLsbD_shiftLeft, BitVec.getLsbD_setWidth, BitVec.getLsbD_ushiftRight, a1, a2, a3, hi]
  rcases Nat.lt_or_ge i 8 with c1 | c1
  · have e1 : i < 16 := by omega
    have e2 : i < 24 := by omega
    simp [c1, e1, e2]
  · rcases Nat.lt_or_ge i 16 with c2 | c2
    · have e1 : ¬ i < 8 := by omega
      have e2 : i < 24 := by omega
      have e3 : i - 8 < 32 := by omega
      have e4 : i - 8 < 8 := by omega
      have e5 : 8 + (i - 8) = i := by omega
      simp [c2, e1, e2, e3, e4, e5]
    · rcases Nat.lt_or_ge i 24 with c3 | c3
      · have e1 : ¬ i < 8 := by omega
        have e2 : ¬ i < 16 := by omega
        have e3 : i - 16 < 32 := by omega
        have e4 : i - 16 < 8 := by omega
        have e5 : 16 + (i - 16) = i := by omega
        have e6 : ¬ i - 8 < 8 := by omega
        simp [c3, e1, e2, e3, e4, e5, e6]
      · have e1 : ¬ i < 8 := by omega
        have e2 : ¬ i < 16 := by omega
        have e3 : i - 24 < 32 := by omega
        have e4 : ¬ i - 16 < 8 := by omega
        have e5 : 24 + (i - 24) = i := by omega
        have e6 : ¬ i - 8 < 8 := by omega
        have e7 : ¬ i < 24 := by omega
        simp [e1, e2, e3, e4, e5, e6, e7]

theorem own_blk0 (a : Int64) : own_blk (own_by a.toInt32) (own_by (own_lu a (8 : Int32))) (own_by (own_lu a (16 : Int32))) (own_by (own_lu a (24 : Int32))) = a.toInt32 := by
  unfold own_blk
  rw [own_by255, own_by255, own_by255, own_by24]
  apply Int32.toBitVec_inj.mp
  have e : ∀ y : BitVec 64, y.signExtend 32 = y.setWidth 32 := fun y => by
    apply BitVec.eq_of_getLsbD_eq; intro i hi
    have : i < 64 := by omega
    simp only [BitVec.getLsbD_signExtend, BitVec.getLsbD_setWidth, hi, this, if_true]
  have := own_blkbv a.toBitVec
  simp only [← e] at this
  exact this
theorem own_blk1 (a : Int64) : own_blk (own_by (own_lu a (32 : Int32))) (own_by (own_lu a (40 : Int32))) (own_by (own_lu a (48 : Int32))) (own_by (own_lu a (56 : Int32))) = own_lu a (32 : Int32) := by
  unfold own_blk
  rw [own_by255, own_by255, own_by255, own_by24]
  apply Int32.toBitVec_inj.mp
  have e : ∀ y : BitVec 64, y.signExtend 32 = y.setWidth 32 := fun y => by
    apply BitVec.eq_of_getLsbD_eq; intro i hi
    have : i < 64 := by omega
    simp only [BitVec.getLsbD_signExtend, BitVec.getLsbD_setWidth, hi, this, if_true]
  have := own_blkbv (a.toBitVec >>> 32)
  simp only [← e, ← BitVec.shiftRight_add] at this
  exact this

theorem own_mm (k : Nat) (hk : k ≤ 32) (i : Nat) (hi : i < 32) : (BitVec.ofNat 32 (2 ^ k - 1)).getLsbD i = decide (i < k) := by
  have : ∀ (k : Fin 33) (j : Fin 32), (BitVec.ofNat 32 (2 ^ k.val - 1)).getLsbD j.val = decide (j.val < k.val) := by decide +kernel
  exact this ⟨k, by omega⟩ ⟨i, hi⟩
theorem own_t2bv (x : BitVec 64) : (((0#32 ||| ((x >>> 8).setWidth 32 &&& 255#32)) <<< 8) ||| (x.setWidth 32 &&& 255#32)) = x.setWidth 32 &&& 65535#32 := by
  apply BitVec.eq_of_getLsbD_eq
  intro i hi
  have a0 : (65535#32).getLsbD i = decide (i < 16) := own_mm 16 (by decide) i hi
  simp only [BitVec.getLsbD_or, BitVec.getLsbD_and, BitVec.getLsbD_shiftLeft, BitVec.getLsbD_setWidth, BitVec.getLsbD_ushiftRight, own_m255 i hi, own_m255 (i - 8) (by omega), a0, hi, BitVec.getLsbD_zero]
  rcases Nat.lt_or_ge i 8 with c1 | c1
  · have e1 : i < 16 := by omega
    simp [c1, e1]
  · have e1 : ¬ i < 8 := by omega
    have e3 : i - 8 < 32 := by omega
    have e5 : 8 + (i - 8) = i := by omega
    rcases Nat.lt_or_ge i 16 with c2 | c2
    · have e4 : i - 8 < 8 := by omega
      simp [c2, e1, e3, e4, e5]
    · have e4 : ¬ i - 8 < 8 := by omega
      have e6 : ¬ i < 16 := by omega
      simp [e1, e3, e4, e5, e6]
theorem own_t3bv (x : BitVec 64) : (((((0#32 ||| ((x >>> 16).setWidth 32 &&& 255#32)) <<< 8) ||| ((x >>> 8).setWidth 32 &&& 255#32)) <<< 8) ||| (x.setWidth 32 &&& 255#32)) = x.setWidth 32 &&& 16777215#32 := by
  apply BitVec.eq_of_getLsbD_eq
  intro i hi
  have a0 : (16777215#32).getLsbD i = decide (i < 24) := own_mm 24 (by decide) i hi
  simp only [BitVec.getLsbD_or, BitVec.getLsbD_and, BitVec.getLsbD_shiftLeft, BitVec.getLsbD_setWidth, BitVec.getLsbD_ushiftRight, own_m255 i hi, own_m255 (i - 8) (by omega), own_m255 (i - 8 - 8) (by omega), a0, hi, BitVec.getLsbD_zero]
  rcases Nat.lt_or_ge i 8 with c1 | c1
  · have e1 : i < 24 := by omega
    simp [c1, e1]
  · have e1 : ¬ i < 8 := by omega
    have e3 : i - 8 < 32 := by omega
    have e5 : 8 + (i - 8) = i := by omega
    have e8 : i - 8 - 8 < 32 := by omega
    rcases Nat.lt_or_ge i 16 with c2 | c2
    · have e4 : i - 8 < 8 := by omega
      have e6 : i < 24 := by omega
      simp [e1, e3, e4, e5, e6]
    · have e4 : ¬ i - 8 < 8 := by omega
      have e7 : 16 + (i - 8 - 8) = i := by omega
      rcases Nat.lt_or_ge i 24 with c3 | c3
      · have e6 : i - 8 - 8 < 8 := by omega
        simp [e1, e3, e4, e5, e6, e7, e8, c3]
      · have e6 : ¬ i - 8 - 8 < 8 := by omega
        have e9 : ¬ i < 24 := by omega
        simp [e1, e3, e4, e5, e6, e7, e8, e9]
theorem own_sw (y : BitVec 64) : y.signExtend 32 = y.setWidth 32 := by
  apply BitVec.eq_of_getLsbD_eq; intro i hi
  have : i < 64 := by omega
  simp only [BitVec.getLsbD_signExtend, BitVec.getLsbD_setWidth, hi, this, if_true]
def own_t1 (b0 : Int32) : Int32 := ((0 : Int32) ||| (b0 &&& (255 : Int32)))
def own_t2 (b0 b1 : Int32) : Int32 := (((own_t1 b1) <<< ((8 : Int32) &&& 31)) ||| (b0 &&& (255 : Int32)))
def own_t3 (b0 b1 b2 : Int32) : Int32 := (((own_t2 b1 b2) <<< ((8 : Int32) &&& 31)) ||| (b0 &&& (255 : Int32)))
theorem own_t1e (x : Int32) : own_t1 (own_by x) = x &&& (255 : Int32) := by
  unfold own_t1; rw [own_by255, Int32.zero_or]
theorem own_t20 (a : Int64) : own_t2 (own_by a.toInt32) (own_by (own_lu a (8 : Int32))) = a.toInt32 &&& (65535 : Int32) := by
  unfold own_t2 own_t1
  rw [own_by255, own_by255]
  apply Int32.toBitVec_inj.mp
  have := own_t2bv a.toBitVec
  simp only [← own_sw] at this
  exact this
theorem own_t21 (a : Int64) : own_t2 (own_by (own_lu a (32 : Int32))) (own_by (own_lu a (40 : Int32))) = own_lu a (32 : Int32) &&& (65535 : Int32) := by
  unfold own_t2 own_t1
  rw [own_by255, own_by255]
  apply Int32.toBitVec_inj.mp
  have := own_t2bv (a.toBitVec >>> 32)
  simp only [← own_sw, ← BitVec.shiftRight_add] at this
  exact this
theorem own_t30 (a : Int64) : own_t3 (own_by a.toInt32) (own_by (own_lu a (8 : Int32))) (own_by (own_lu a (16 : Int32))) = a.toInt32 &&& (16777215 : Int32) := by
  unfold own_t3 own_t2 own_t1
  rw [own_by255, own_by255, own_by255]
  apply Int32.toBitVec_inj.mp
  have := own_t3bv a.toBitVec
  simp only [← own_sw] at this
  exact this
theorem own_t31 (a : Int64) : own_t3 (own_by (own_lu a (32 : Int32))) (own_by (own_lu a (40 : Int32))) (own_by (own_lu a (48 : Int32))) = own_lu a (32 : Int32) &&& (16777215 : Int32) := by
  unfold own_t3 own_t2 own_t1
  rw [own_by255, own_by255, own_by255]
  apply Int32.toBitVec_inj.mp
  have := own_t3bv (a.toBitVec >>> 32)
  simp only [← own_sw, ← BitVec.shiftRight_add] at this
  exact this
def own_rotl (x r : Int32) : Int32 := ((x <<< (r &&& 31)) ||| ((x.toUInt32 >>> ((-r) &&& 31).toUInt32).toInt32))
def own_scr (k : Int32) : Int32 := ((own_rotl (k * (-862048943 : Int32)) (15 : Int32)) * (461845907 : Int32))
def own_mb (h k : Int32) : Int32 := (((own_rotl (h ^^^ (own_scr k)) (13 : Int32)) * (5 : Int32)) + (-430675100 : Int32))
def own_x16 (h : Int32) : Int32 := (h ^^^ ((h.toUInt32 >>> ((16 : Int32) &&& 31).toUInt32).toInt32))
def own_x13 (h : Int32) : Int32 := (h ^^^ ((h.toUInt32 >>> ((13 : Int32) &&& 31).toUInt32).toInt32))
def own_fin (h : Int32) : Int32 := (own_x16 ((own_x13 ((own_x16 h) * (-2048144789 : Int32))) * (-1028477387 : Int32)))
theorem own_scr0 : own_scr (0 : Int32) = (0 : Int32) := by decide +kernel
theorem own_rem12 (x : Int32) (hx : 0 ≤ x.toInt) : (own_rem x (12 : Int32)).toInt = x.toInt % 12 := by
  have k : (12 : Int32).toInt = 12 := rfl
  have hq := (c_idiv x 12 12 k (by decide)).1 hx
  have hm := c_imul (x / 12) 12
  have hs := c_isub x (x / 12 * 12)
  rw [hq, k] at hm
  have r1 := rng32 x
  have r2 := rng32 (x / 12 * 12)
  have r3 := rng32 (x - x / 12 * 12)
  unfold own_rem
  omega
theorem own_n12 (i : Int32) : (own_rem (i &&& (2147483647 : Int32)) (12 : Int32)) = (0 : Int32) ∨ (own_rem (i &&& (2147483647 : Int32)) (12 : Int32)) = (1 : Int32) ∨ (own_rem (i &&& (2147483647 : Int32)) (12 : Int32)) = (2 : Int32) ∨ (own_rem (i &&& (2147483647 : Int32)) (12 : Int32)) = (3 : Int32) ∨ (own_rem (i &&& (2147483647 : Int32)) (12 : Int32)) = (4 : Int32) ∨ (own_rem (i &&& (2147483647 : Int32)) (12 : Int32)) = (5 : Int32) ∨ (own_rem (i &&& (2147483647 : Int32)) (12 : Int32)) = (6 : Int32) ∨ (own_rem (i &&& (2147483647 : Int32)) (12 : Int32)) = (7 : Int32) ∨ (own_rem (i &&& (2147483647 : Int32)) (12 : Int32)) = (8 : Int32) ∨ (own_rem (i &&& (2147483647 : Int32)) (12 : Int32)) = (9 : Int32) ∨ (own_rem (i &&& (2147483647 : Int32)) (12 : Int32)) = (10 : Int32) ∨ (own_rem (i &&& (2147483647 : Int32)) (12 : Int32)) = (11 : Int32) := by
  have hm := c_mask i 2147483647 31 (by decide) (by decide)
  have h := own_rem12 (i &&& (2147483647 : Int32)) (by rw [hm]; omega)
  have k0 : (0 : Int32).toInt = 0 := rfl
  have k1 : (1 : Int32).toInt = 1 := rfl
  have k2 : (2 : Int32).toInt = 2 := rfl
  have k3 : (3 : Int32).toInt = 3 := rfl
  have k4 : (4 : Int32).toInt = 4 := rfl
  have k5 : (5 : Int32).toInt = 5 := rfl
  have k6 : (6 : Int32).toInt = 6 := rfl
  have k7 : (7 : Int32).toInt = 7 := rfl
  have k8 : (8 : Int32).toInt = 8 := rfl
  have k9 : (9 : Int32).toInt = 9 := rfl
  have k10 : (10 : Int32).toInt = 10 := rfl
  have k11 : (11 : Int32).toInt = 11 := rfl
  simp only [← Int32.toInt_inj, k0, k1, k2, k3, k4, k5, k6, k7, k8, k9, k10, k11]
  omega
theorem ef_rm1 (m : MethodId) (x0 : Int32) (x1 : Int32) : entryFrame m #[(.int x0), (.int x1)] 2 = mkF m 0 #[.val (.int x0), .val (.int x1)] [] := by first | (simp [entryFrame, mkF, argsToLocals, Value.category]; done) | rfl
theorem pn_java_lang_Integer : plainName "java/lang/Integer" = true := by first | (simp [plainName, overriddenIn]; done) | decide +kernel
def Q1 (Z : State) (p1 : Int32) (p2 : Int32) (h0 : Heap) (n0 : Nat) (v : Option Value) (h : Heap) (L : List Loc) : Prop := v = some (.int (own_rotl p1 p2)) ∧ Fr n0 L ∧ h = h0
theorem d_jdk_33_method_50_code_0 : decode jdk_33_method_50_code 0 = .ok (.iload_n 0, 1) := by decide +kernel
theorem d_jdk_33_method_50_code_1 : decode jdk_33_method_50_code 1 = .ok (.iload_n 1, 1) := by decide +kernel
theorem d_jdk_33_method_50_code_2 : decode jdk_33_method_50_code 2 = .ok (.ishl, 1) := by decide +kernel
theorem d_jdk_33_method_50_code_3 : decode jdk_33_method_50_code 3 = .ok (.iload_n 0, 1) := by decide +kernel
theorem d_jdk_33_method_50_code_4 : decode jdk_33_method_50_code 4 = .ok (.iload_n 1, 1) := by decide +kernel
theorem d_jdk_33_method_50_code_5 : decode jdk_33_method_50_code 5 = .ok (.ineg, 1) := by decide +kernel
theorem d_jdk_33_method_50_code_6 : decode jdk_33_method_50_code 6 = .ok (.iushr, 1) := by decide +kernel
theorem d_jdk_33_method_50_code_7 : decode jdk_33_method_50_code 7 = .ok (.ior, 1) := by decide +kernel
theorem d_jdk_33_method_50_code_8 : decode jdk_33_method_50_code 8 = .ok (.ireturn, 1) := by decide +kernel
set_option maxRecDepth 65536 in
set_option maxHeartbeats 40000000 in
theorem rm1 (l : Launch) (Z : State) (a0 : Array Value) (hw : ∀ d ∈ tables_1, d.before a0 Z = true) (ws : List Jvm.Cond) (p1 : Int32) (p2 : Int32) (h0 : Heap) (n0 : Nat) (Z0 : n0 ≤ h0.size) :
    MetFree l (⟨"java/lang/Integer", "rotateLeft", "(II)I"⟩ : MethodName) (head1 (Jvm.Cond.code (⟨"java/lang/Integer", "rotateLeft", "(II)I"⟩ : MethodName) jdk_33_method_50_code 2 (some .int) :: ws) ({ frames := 0, cells := 0, slots := 0, locals := 0 } : Room)) (fun a U => a = #[(.int p1), (.int p2)] ∧ Z.Warmed39 U.vm ∧ U.heap = h0) (fun _ _ _ _ _ => True) (fun _ U o U' => ∃ v L, o = .returned v ∧ Q1 Z p1 p2 h0 n0 v U'.heap L ∧ FrameEnd U o U' L ({ frames := 0, cells := 0, slots := 0, locals := 0 } : Room).cells ({ frames := 0, cells := 0, slots := 0, locals := 0 } : Room).slots) := by
  refine MetFree.of_bodySF (plainFor_of_name pn_java_lang_Integer) hisR ?_
  intro p e s m args below meth c s₁ Bd hml0 hP hK
  obtain ⟨rfl, hZ, hh⟩ := hP
  have hx := Bd.exec
  have hby := Bd.bytes
  have hml : c.maxLocals = 2 := hml0
  have hown : s.vm.findClass "java/lang/Integer" = some m.cls := findClass_of_methodNamed Bd.named
  have hnm := (name_of_methodNamed Bd.named Bd.method).1
  have X0 : Stand p l e ({ frames := 0, cells := 0, slots := 0, locals := 0 } : Room) s m #[(.int p1), (.int p2)] below meth c s₁ [] 0 0 := Stand.of_body Bd
  have e0 : s₁.heap = h0 := by rw [← hh, Bd.state]; rfl
  have N0 := Fr.nil n0
  have pre0 : ∀ tG, Steps p.tables e below (s₁.setTop (mkF m 0 #[.val (.int p1), .val (.int p2)] [])) tG → Steps p.tables e below (s₁.setTop (entryFrame m #[(.int p1), (.int p2)] 2)) tG := fun tG kG => castTop (ef_rm1 m p1 p2) kG
  obtain ⟨fs, hr, hrun, hended, hW, hsame⟩ := X0.leave (v := some (.int ((p1 <<< (p2 &&& 31)) ||| ((p1.toUInt32 >>> ((-p2) &&& 31).toUInt32).toInt32)))) (fun h => by rw [Bd.returns] at h; cases h)
  refine ⟨_, _, pre0 _ ?_, hrun, hended, _, _, rfl, ?_, ⟨_, rfl⟩, hW, hsame.mono (by decide) (by decide)⟩
  · refine own_iloadN X0.here hx (hb hby d_jdk_33_method_50_code_0) rfl ?_
    refine own_iloadN X0.here hx (hb hby d_jdk_33_method_50_code_1) rfl ?_
    refine own_ishl X0.here hx (hb hby d_jdk_33_method_50_code_2) ?_
    refine own_iloadN X0.here hx (hb hby d_jdk_33_method_50_code_3) rfl ?_
    refine own_iloadN X0.here hx (hb hby d_jdk_33_method_50_code_4) rfl ?_
    refine own_ineg X0.here hx (hb hby d_jdk_33_method_50_code_5) ?_
    refine own_iushr X0.here hx (hb hby d_jdk_33_method_50_code_6) ?_
    refine own_ior X0.here hx (hb hby d_jdk_33_method_50_code_7) ?_
    exact retI X0 hx Bd.returns (hb hby d_jdk_33_method_50_code_8) hr
  · show Q1 Z p1 p2 h0 n0 _ s₁.heap _
    rw [e0]
    exact ⟨rfl, N0, rfl⟩
theorem ef_rm2 (m : MethodId) (x0 : Int32) : entryFrame m #[(.int x0)] 1 = mkF m 0 #[.val (.int x0)] [] := by first | (simp [entryFrame, mkF, argsToLocals, Value.category]; done) | rfl
theorem pn_com_example_forkline_forkline_bucketing_MurmurHash3 : plainName "com/example/forkline/forkline/bucketing/MurmurHash3" = true := by first | (simp [plainName, overriddenIn]; done) | decide +kernel
def Q2 (Z : State) (p1 : Int32) (h0 : Heap) (n0 : Nat) (v : Option Value) (h : Heap) (L : List Loc) : Prop := v = some (.int (own_scr p1)) ∧ Fr n0 L ∧ h = h0
theorem d_prog_21_method_3_code_0 : decode prog_21_method_3_code 0 = .ok (.iload_n 0, 1) := by decide +kernel
theorem d_prog_21_method_3_code_1 : decode prog_21_method_3_code 1 = .ok (.ldc 23, 2) := by decide +kernel
theorem d_prog_21_method_3_code_3 : decode prog_21_method_3_code 3 = .ok (.imul, 1) := by decide +kernel
theorem d_prog_21_method_3_code_4 : decode prog_21_method_3_code 4 = .ok (.bipush 15, 2) := by decide +kernel
theorem d_prog_21_method_3_code_6 : decode prog_21_method_3_code 6 = .ok (.invokestatic 13, 3) := by decide +kernel
theorem pd_28II29I : parseMethodDescriptor "(II)I" = some ⟨[.int, .int], some .int⟩ := by decide +kernel
theorem d_prog_21_method_3_code_9 : decode prog_21_method_3_code 9 = .ok (.ldc 24, 2) := by decide +kernel
theorem d_prog_21_method_3_code_11 : decode prog_21_method_3_code 11 = .ok (.imul, 1) := by decide +kernel
theorem d_prog_21_method_3_code_12 : decode prog_21_method_3_code 12 = .ok (.ireturn, 1) := by decide +kernel
set_option maxRecDepth 65536 in
set_option maxHeartbeats 40000000 in
theorem rm2 (l : Launch) (Z : State) (a0 : Array Value) (hw : ∀ d ∈ tables_1, d.before a0 Z = true) (ws : List Jvm.Cond) (p1 : Int32) (h0 : Heap) (n0 : Nat) (Z0 : n0 ≤ h0.size) :
    MetFree l (⟨"com/example/forkline/forkline/bucketing/MurmurHash3", "scramble", "(I)I"⟩ : MethodName) (head1 (Jvm.Cond.code (⟨"com/example/forkline/forkline/bucketing/MurmurHash3", "scramble", "(I)I"⟩ : MethodName) prog_21_method_3_code 1 (some .int) :: ws) ({ frames := 1, cells := 0, slots := 0, locals := 13 } : Room)) (fun a U => a = #[(.int p1)] ∧ Z.Warmed39 U.vm ∧ U.heap = h0) (fun _ _ _ _ _ => True) (fun _ U o U' => ∃ v L, o = .returned v ∧ Q2 Z p1 h0 n0 v U'.heap L ∧ FrameEnd U o U' L ({ frames := 1, cells := 0, slots := 0, locals := 13 } : Room).cells ({ frames := 1, cells := 0, slots := 0, locals := 13 } : Room).slots) := by
  refine MetFree.of_bodySF (plainFor_of_name pn_com_example_forkline_forkline_bucketing_MurmurHash3) hisR ?_
  intro p e s m args below meth c s₁ Bd hml0 hP hK
  obtain ⟨rfl, hZ, hh⟩ := hP
  have hx := Bd.exec
  have hby := Bd.bytes
  have hml : c.maxLocals = 1 := hml0
  have hown : s.vm.findClass "com/example/forkline/forkline/bucketing/MurmurHash3" = some m.cls := findClass_of_methodNamed Bd.named
  have hnm := (name_of_methodNamed Bd.named Bd.method).1
  have X0 : Stand p l e ({ frames := 1, cells := 0, slots := 0, locals := 13 } : Room) s m #[(.int p1)] below meth c s₁ [] 0 0 := Stand.of_body Bd
  have e0 : s₁.heap = h0 := by rw [← hh, Bd.state]; rfl
  have N0 := Fr.nil n0
  have pre0 : ∀ tG, Steps p.tables e below (s₁.setTop (mkF m 0 #[.val (.int p1)] [])) tG → Steps p.tables e below (s₁.setTop (entryFrame m #[(.int p1)] 1)) tG := fun tG kG => castTop (ef_rm2 m p1) kG
  obtain ⟨_, _, ⟨T1, L1, k1, n1⟩, -, X1, ⟨Lc1, hQ1, l1, y1, z1⟩, st1⟩ := Jvm.LawKit.callS X0 hx (y := (⟨"java/lang/Integer", "rotateLeft", "(II)I"⟩ : MethodName)) hown (mvT hZ (hw _ (List.mem_of_getElem? (i := 12) rfl))) (mvT hZ (hw _ (List.mem_of_getElem? (i := 13) rfl))) (mvT hZ (hw _ (List.mem_of_getElem? (i := 14) rfl))) (mvT hZ (hw _ (List.mem_of_getElem? (i := 15) rfl))) (by decide) (backOf (W := 0) (rm1 l Z a0 hw [] (p1 * (-862048943 : Int32)) (15 : Int32) h0 n0 Z0) hZ (hw _ (List.mem_of_getElem? (i := 15) rfl)) (hw _ (List.mem_of_getElem? (i := 14) rfl)) (by decide) (by decide)) (g := (mkF m 6 #[.val (.int p1)] [(.int 15), (.int (p1 * (-862048943 : Int32)))])) rfl (by rw [hml]; rfl) (argsL := [(.int (p1 * (-862048943 : Int32))), (.int 15)]) (rest := []) (lenOf pd_28II29I rfl) rfl (by show 2 * 0 + _ ≤ _; exact Nat.le_of_eq rfl) (hb hby d_prog_21_method_3_code_6) (fun _ _ => ⟨rfl, e0, (by decide : 0 + 0 ≤ _), (by decide : 0 + 0 ≤ _)⟩)
  dsimp only [Pt.U, Pt.locs, Pt.cells, Pt.slots] at X1 l1 y1 z1 st1 hQ1
  subst l1 y1 z1
  obtain ⟨rfl, N1q, e1⟩ := hQ1
  have N1 := Fr.app N0 N1q
  obtain ⟨fs, hr, hrun, hended, hW, hsame⟩ := X1.leave (v := some (.int ((own_rotl (p1 * (-862048943 : Int32)) (15 : Int32)) * (461845907 : Int32)))) (fun h => by rw [Bd.returns] at h; cases h)
  refine ⟨_, _, pre0 _ ?_, hrun, hended, _, _, rfl, ?_, ⟨_, rfl⟩, hW, hsame.mono (by decide) (by decide)⟩
  · refine own_iloadN X0.here hx (hb hby d_prog_21_method_3_code_0) rfl ?_
    refine X0.ldcInt hx hown (mvT hZ (hw _ (List.mem_of_getElem? (i := 11) rfl))) (g := (mkF m 1 #[.val (.int p1)] [(.int p1)])) rfl (hb hby d_prog_21_method_3_code_1) _ ?_
    show Steps p.tables e below (s₁.setTop (mkF m 3 #[.val (.int p1)] [(.int (-862048943)), (.int p1)])) _
    refine own_imul X0.here hx (hb hby d_prog_21_method_3_code_3) ?_
    refine own_bipush X0.here hx (15 : Int32) (hb hby d_prog_21_method_3_code_4) rfl ?_
    refine st1 _ ?_
    show Steps p.tables e below (T1.setTop (mkF m 9 #[.val (.int p1)] [(.int (own_rotl (p1 * (-862048943 : Int32)) (15 : Int32)))])) _
    refine X1.ldcInt hx hown (mvT hZ (hw _ (List.mem_of_getElem? (i := 16) rfl))) (g := (mkF m 9 #[.val (.int p1)] [(.int (own_rotl (p1 * (-862048943 : Int32)) (15 : Int32)))])) rfl (hb hby d_prog_21_method_3_code_9) _ ?_
    show Steps p.tables e below (T1.setTop (mkF m 11 #[.val (.int p1)] [(.int 461845907), (.int (own_rotl (p1 * (-862048943 : Int32)) (15 : Int32)))])) _
    refine own_imul X1.here hx (hb hby d_prog_21_method_3_code_11) ?_
    exact retI X1 hx Bd.returns (hb hby d_prog_21_method_3_code_12) hr
  · show Q2 Z p1 h0 n0 _ T1.heap _
    rw [e1]
    exact ⟨rfl, N1, rfl⟩
theorem ef_rm3 (m : MethodId) (x0 : Int32) : entryFrame m #[(.int x0)] 2 = mkF m 0 #[.val (.int x0), .unset] [] := by first | (simp [entryFrame, mkF, argsToLocals, Value.category]; done) | rfl
def Q3 (Z : State) (p1 : Int32) (h0 : Heap) (n0 : Nat) (v : Option Value) (h : Heap) (L : List Loc) : Prop := v = some (.int (own_fin p1)) ∧ Fr n0 L ∧ h = h0
theorem d_prog_21_method_4_code_0 : decode prog_21_method_4_code 0 = .ok (.iload_n 0, 1) := by decide +kernel
theorem d_prog_21_method_4_code_1 : decode prog_21_method_4_code 1 = .ok (.istore_n 1, 1) := by decide +kernel
theorem d_prog_21_method_4_code_2 : decode prog_21_method_4_code 2 = .ok (.iload_n 1, 1) := by decide +kernel
theorem d_prog_21_method_4_code_3 : decode prog_21_method_4_code 3 = .ok (.iload_n 1, 1) := by decide +kernel
theorem d_prog_21_method_4_code_4 : decode prog_21_method_4_code 4 = .ok (.bipush 16, 2) := by decide +kernel
theorem d_prog_21_method_4_code_6 : decode prog_21_method_4_code 6 = .ok (.iushr, 1) := by decide +kernel
theorem d_prog_21_method_4_code_7 : decode prog_21_method_4_code 7 = .ok (.ixor, 1) := by decide +kernel
theorem d_prog_21_method_4_code_8 : decode prog_21_method_4_code 8 = .ok (.istore_n 1, 1) := by decide +kernel
theorem d_prog_21_method_4_code_9 : decode prog_21_method_4_code 9 = .ok (.iload_n 1, 1) := by decide +kernel
theorem d_prog_21_method_4_code_10 : decode prog_21_method_4_code 10 = .ok (.ldc 25, 2) := by decide +kernel
theorem d_prog_21_method_4_code_12 : decode prog_21_method_4_code 12 = .ok (.imul, 1) := by decide +kernel
theorem d_prog_21_method_4_code_13 : decode prog_21_method_4_code 13 = .ok (.istore_n 1, 1) := by decide +kernel
theorem d_prog_21_method_4_code_14 : decode prog_21_method_4_code 14 = .ok (.iload_n 1, 1) := by decide +kernel
theorem d_prog_21_method_4_code_15 : decode prog_21_method_4_code 15 = .ok (.iload_n 1, 1) := by decide +kernel
theorem d_prog_21_method_4_code_16 : decode prog_21_method_4_code 16 = .ok (.bipush 13, 2) := by decide +kernel
theorem d_prog_21_method_4_code_18 : decode prog_21_method_4_code 18 = .ok (.iushr, 1) := by decide +kernel
theorem d_prog_21_method_4_code_19 : decode prog_21_method_4_code 19 = .ok (.ixor, 1) := by decide +kernel
theorem d_prog_21_method_4_code_20 : decode prog_21_method_4_code 20 = .ok (.istore_n 1, 1) := by decide +kernel
theorem d_prog_21_method_4_code_21 : decode prog_21_method_4_code 21 = .ok (.iload_n 1, 1) := by decide +kernel
theorem d_prog_21_method_4_code_22 : decode prog_21_method_4_code 22 = .ok (.ldc 26, 2) := by decide +kernel
theorem d_prog_21_method_4_code_24 : decode prog_21_method_4_code 24 = .ok (.imul, 1) := by decide +kernel
theorem d_prog_21_method_4_code_25 : decode prog_21_method_4_code 25 = .ok (.istore_n 1, 1) := by decide +kernel
theorem d_prog_21_method_4_code_26 : decode prog_21_method_4_code 26 = .ok (.iload_n 1, 1) := by decide +kernel
theorem d_prog_21_method_4_code_27 : decode prog_21_method_4_code 27 = .ok (.iload_n 1, 1) := by decide +kernel
theorem d_prog_21_method_4_code_28 : decode prog_21_method_4_code 28 = .ok (.bipush 16, 2) := by decide +kernel
theorem d_prog_21_method_4_code_30 : decode prog_21_method_4_code 30 = .ok (.iushr, 1) := by decide +kernel
theorem d_prog_21_method_4_code_31 : decode prog_21_method_4_code 31 = .ok (.ixor, 1) := by decide +kernel
theorem d_prog_21_method_4_code_32 : decode prog_21_method_4_code 32 = .ok (.istore_n 1, 1) := by decide +kernel
theorem d_prog_21_method_4_code_33 : decode prog_21_method_4_code 33 = .ok (.iload_n 1, 1) := by decide +kernel
theorem d_prog_21_method_4_code_34 : decode prog_21_method_4_code 34 = .ok (.ireturn, 1) := by decide +kernel
set_option maxRecDepth 65536 in
set_option maxHeartbeats 40000000 in
theorem rm3 (l : Launch) (Z : State) (a0 : Array Value) (hw : ∀ d ∈ tables_1, d.before a0 Z = true) (ws : List Jvm.Cond) (p1 : Int32) (h0 : Heap) (n0 : Nat) (Z0 : n0 ≤ h0.size) :
    MetFree l (⟨"com/example/forkline/forkline/bucketing/MurmurHash3", "finalMix", "(I)I"⟩ : MethodName) (head1 (Jvm.Cond.code (⟨"com/example/forkline/forkline/bucketing/MurmurHash3", "finalMix", "(I)I"⟩ : MethodName) prog_21_method_4_code 2 (some .int) :: ws) ({ frames := 0, cells := 0, slots := 0, locals := 0 } : Room)) (fun a U => a = #[(.int p1)] ∧ Z.Warmed39 U.vm ∧ U.heap = h0) (fun _ _ _ _ _ => True) (fun _ U o U' => ∃ v L, o = .returned v ∧ Q3 Z p1 h0 n0 v U'.heap L ∧ FrameEnd U o U' L ({ frames := 0, cells := 0, slots := 0, locals := 0 } : Room).cells ({ frames := 0, cells := 0, slots := 0, locals := 0 } : Room).slots) := by
  refine MetFree.of_bodySF (plainFor_of_name pn_com_example_forkline_forkline_bucketing_MurmurHash3) hisR ?_
  intro p e s m args below meth c s₁ Bd hml0 hP hK
  obtain ⟨rfl, hZ, hh⟩ := hP
  have hx := Bd.exec
  have hby := Bd.bytes
  have hml : c.maxLocals = 2 := hml0
  have hown : s.vm.findClass "com/example/forkline/forkline/bucketing/MurmurHash3" = some m.cls := findClass_of_methodNamed Bd.named
  have hnm := (name_of_methodNamed Bd.named Bd.method).1
  have X0 : Stand p l e ({ frames := 0, cells := 0, slots := 0, locals := 0 } : Room) s m #[(.int p1)] below meth c s₁ [] 0 0 := Stand.of_body Bd
  have e0 : s₁.heap = h0 := by rw [← hh, Bd.state]; rfl
  have N0 := Fr.nil n0
  have pre0 : ∀ tG, Steps p.tables e below (s₁.setTop (mkF m 0 #[.val (.int p1), .unset] [])) tG → Steps p.tables e below (s₁.setTop (entryFrame m #[(.int p1)] 2)) tG := fun tG kG => castTop (ef_rm3 m p1) kG
  obtain ⟨fs, hr, hrun, hended, hW, hsame⟩ := X0.leave (v := some (.int (own_x16 ((own_x13 ((own_x16 p1) * (-2048144789 : Int32))) * (-1028477387 : Int32))))) (fun h => by rw [Bd.returns] at h; cases h)
  refine ⟨_, _, pre0 _ ?_, hrun, hended, _, _, rfl, ?_, ⟨_, rfl⟩, hW, hsame.mono (by decide) (by decide)⟩
  · refine own_iloadN X0.here hx (hb hby d_prog_21_method_4_code_0) rfl ?_
    refine own_istoreN X0.here hx (hb hby d_prog_21_method_4_code_1) (l' := #[.val (.int p1), .val (.int p1)]) rfl ?_
    refine own_iloadN X0.here hx (hb hby d_prog_21_method_4_code_2) rfl ?_
    refine own_iloadN X0.here hx (hb hby d_prog_21_method_4_code_3) rfl ?_
    refine own_bipush X0.here hx (16 : Int32) (hb hby d_prog_21_method_4_code_4) rfl ?_
    refine own_iushr X0.here hx (hb hby d_prog_21_method_4_code_6) ?_
    refine own_ixor X0.here hx (hb hby d_prog_21_method_4_code_7) ?_
    show Steps p.tables e below (s₁.setTop (mkF m 8 #[.val (.int p1), .val (.int p1)] [(.int (own_x16 p1))])) _
    refine own_istoreN X0.here hx (hb hby d_prog_21_method_4_code_8) (l' := #[.val (.int p1), .val (.int (own_x16 p1))]) rfl ?_
    refine own_iloadN X0.here hx (hb hby d_prog_21_method_4_code_9) rfl ?_
    refine X0.ldcInt hx hown (mvT hZ (hw _ (List.mem_of_getElem? (i := 20) rfl))) (g := (mkF m 10 #[.val (.int p1), .val (.int (own_x16 p1))] [(.int (own_x16 p1))])) rfl (hb hby d_prog_21_method_4_code_10) _ ?_
    show Steps p.tables e below (s₁.setTop (mkF m 12 #[.val (.int p1), .val (.int (own_x16 p1))] [(.int (-2048144789)), (.int (own_x16 p1))])) _
    refine own_imul X0.here hx (hb hby d_prog_21_method_4_code_12) ?_
    refine own_istoreN X0.here hx (hb hby d_prog_21_method_4_code_13) (l' := #[.val (.int p1), .val (.int ((own_x16 p1) * (-2048144789 : Int32)))]) rfl ?_
    refine own_iloadN X0.here hx (hb hby d_prog_21_method_4_code_14) rfl ?_
    refine own_iloadN X0.here hx (hb hby d_prog_21_method_4_code_15) rfl ?_
    refine own_bipush X0.here hx (13 : Int32) (hb hby d_prog_21_method_4_code_16) rfl ?_
    refine own_iushr X0.here hx (hb hby d_prog_21_method_4_code_18) ?_
    refine own_ixor X0.here hx (hb hby d_prog_21_method_4_code_19) ?_
    show Steps p.tables e below (s₁.setTop (mkF m 20 #[.val (.int p1), .val (.int ((own_x16 p1) * (-2048144789 : Int32)))] [(.int (own_x13 ((own_x16 p1) * (-2048144789 : Int32))))])) _
    refine own_istoreN X0.here hx (hb hby d_prog_21_method_4_code_20) (l' := #[.val (.int p1), .val (.int (own_x13 ((own_x16 p1) * (-2048144789 : Int32))))]) rfl ?_
    refine own_iloadN X0.here hx (hb hby d_prog_21_method_4_code_21) rfl ?_
    refine X0.ldcInt hx hown (mvT hZ (hw _ (List.mem_of_getElem? (i := 21) rfl))) (g := (mkF m 22 #[.val (.int p1), .val (.int (own_x13 ((own_x16 p1) * (-2048144789 : Int32))))] [(.int (own_x13 ((own_x16 p1) * (-2048144789 : Int32))))])) rfl (hb hby d_prog_21_method_4_code_22) _ ?_
    show Steps p.tables e below (s₁.setTop (mkF m 24 #[.val (.int p1), .val (.int (own_x13 ((own_x16 p1) * (-2048144789 : Int32))))] [(.int (-1028477387)), (.int (own_x13 ((own_x16 p1) * (-2048144789 : Int32))))])) _
    refine own_imul X0.here hx (hb hby d_prog_21_method_4_code_24) ?_
    refine own_istoreN X0.here hx (hb hby d_prog_21_method_4_code_25) (l' := #[.val (.int p1), .val (.int ((own_x13 ((own_x16 p1) * (-2048144789 : Int32))) * (-1028477387 : Int32)))]) rfl ?_
    refine own_iloadN X0.here hx (hb hby d_prog_21_method_4_code_26) rfl ?_
    refine own_iloadN X0.here hx (hb hby d_prog_21_method_4_code_27) rfl ?_
    refine own_bipush X0.here hx (16 : Int32) (hb hby d_prog_21_method_4_code_28) rfl ?_
    refine own_iushr X0.here hx (hb hby d_prog_21_method_4_code_30) ?_
    refine own_ixor X0.here hx (hb hby d_prog_21_method_4_code_31) ?_
    show Steps p.tables e below (s₁.setTop (mkF m 32 #[.val (.int p1), .val (.int ((own_x13 ((own_x16 p1) * (-2048144789 : Int32))) * (-1028477387 : Int32)))] [(.int (own_x16 ((own_x13 ((own_x16 p1) * (-2048144789 : Int32))) * (-1028477387 : Int32))))])) _
    refine own_istoreN X0.here hx (hb hby d_prog_21_method_4_code_32) (l' := #[.val (.int p1), .val (.int (own_x16 ((own_x13 ((own_x16 p1) * (-2048144789 : Int32))) * (-1028477387 : Int32))))]) rfl ?_
    refine own_iloadN X0.here hx (hb hby d_prog_21_method_4_code_33) rfl ?_
    exact retI X0 hx Bd.returns (hb hby d_prog_21_method_4_code_34) hr
  · show Q3 Z p1 h0 n0 _ s₁.heap _
    rw [e0]
    exact ⟨rfl, N0, rfl⟩
theorem ef_rm4 (m : MethodId) (x0 : Int32) (x1 : Int32) : entryFrame m #[(.int x0), (.int x1)] 4 = mkF m 0 #[.val (.int x0), .val (.int x1), .unset, .unset] [] := by first | (simp [entryFrame, mkF, argsToLocals, Value.category]; done) | rfl
theorem pn_com_example_forkline_forkline_bucketing_MurmurHash3Hash32PinLaw : plainName "com/example/forkline/forkline/bucketing/MurmurHash3Hash32PinLaw" = true := by first | (simp [plainName, overriddenIn]; done) | decide +kernel
def Q4 (Z : State) (p1 : Int32) (p2 : Int32) (h0 : Heap) (n0 : Nat) (v : Option Value) (h : Heap) (L : List Loc) : Prop := v = some (.int (own_mb p1 p2)) ∧ Fr n0 L ∧ h = h0
theorem d_method_2_code_0 : decode method_2_code 0 = .ok (.iload_n 1, 1) := by decide +kernel
theorem d_method_2_code_1 : decode method_2_code 1 = .ok (.ldc 7, 2) := by decide +kernel
theorem d_method_2_code_3 : decode method_2_code 3 = .ok (.imul, 1) := by decide +kernel
theorem d_method_2_code_4 : decode method_2_code 4 = .ok (.istore_n 2, 1) := by decide +kernel
theorem d_method_2_code_5 : decode method_2_code 5 = .ok (.iload_n 2, 1) := by decide +kernel
theorem d_method_2_code_6 : decode method_2_code 6 = .ok (.bipush 15, 2) := by decide +kernel
theorem d_method_2_code_8 : decode method_2_code 8 = .ok (.ishl, 1) := by decide +kernel
theorem d_method_2_code_9 : decode method_2_code 9 = .ok (.iload_n 2, 1) := by decide +kernel
theorem d_method_2_code_10 : decode method_2_code 10 = .ok (.bipush 17, 2) := by decide +kernel
theorem d_method_2_code_12 : decode method_2_code 12 = .ok (.iushr, 1) := by decide +kernel
theorem d_method_2_code_13 : decode method_2_code 13 = .ok (.ior, 1) := by decide +kernel
theorem d_method_2_code_14 : decode method_2_code 14 = .ok (.istore_n 2, 1) := by decide +kernel
theorem d_method_2_code_15 : decode method_2_code 15 = .ok (.iload_n 2, 1) := by decide +kernel
theorem d_method_2_code_16 : decode method_2_code 16 = .ok (.ldc 8, 2) := by decide +kernel
theorem d_method_2_code_18 : decode method_2_code 18 = .ok (.imul, 1) := by decide +kernel
theorem d_method_2_code_19 : decode method_2_code 19 = .ok (.istore_n 2, 1) := by decide +kernel
theorem d_method_2_code_20 : decode method_2_code 20 = .ok (.iload_n 0, 1) := by decide +kernel
theorem d_method_2_code_21 : decode method_2_code 21 = .ok (.iload_n 2, 1) := by decide +kernel
theorem d_method_2_code_22 : decode method_2_code 22 = .ok (.ixor, 1) := by decide +kernel
theorem d_method_2_code_23 : decode method_2_code 23 = .ok (.istore_n 3, 1) := by decide +kernel
theorem d_method_2_code_24 : decode method_2_code 24 = .ok (.iload_n 3, 1) := by decide +kernel
theorem d_method_2_code_25 : decode method_2_code 25 = .ok (.bipush 13, 2) := by decide +kernel
theorem d_method_2_code_27 : decode method_2_code 27 = .ok (.ishl, 1) := by decide +kernel
theorem d_method_2_code_28 : decode method_2_code 28 = .ok (.iload_n 3, 1) := by decide +kernel
theorem d_method_2_code_29 : decode method_2_code 29 = .ok (.bipush 19, 2) := by decide +kernel
theorem d_method_2_code_31 : decode method_2_code 31 = .ok (.iushr, 1) := by decide +kernel
theorem d_method_2_code_32 : decode method_2_code 32 = .ok (.ior, 1) := by decide +kernel
theorem d_method_2_code_33 : decode method_2_code 33 = .ok (.istore_n 3, 1) := by decide +kernel
theorem d_method_2_code_34 : decode method_2_code 34 = .ok (.iload_n 3, 1) := by decide +kernel
theorem d_method_2_code_35 : decode method_2_code 35 = .ok (.iconst 5, 1) := by decide +kernel
theorem d_method_2_code_36 : decode method_2_code 36 = .ok (.imul, 1) := by decide +kernel
theorem d_method_2_code_37 : decode method_2_code 37 = .ok (.ldc 9, 2) := by decide +kernel
theorem d_method_2_code_39 : decode method_2_code 39 = .ok (.iadd, 1) := by decide +kernel
theorem d_method_2_code_40 : decode method_2_code 40 = .ok (.ireturn, 1) := by decide +kernel
set_option maxRecDepth 65536 in
set_option maxHeartbeats 40000000 in
theorem rm4 (l : Launch) (Z : State) (a0 : Array Value) (hw : ∀ d ∈ tables_1, d.before a0 Z = true) (ws : List Jvm.Cond) (p1 : Int32) (p2 : Int32) (h0 : Heap) (n0 : Nat) (Z0 : n0 ≤ h0.size) :
    MetFree l (⟨"com/example/forkline/forkline/bucketing/MurmurHash3Hash32PinLaw", "mixBlock", "(II)I"⟩ : MethodName) (head1 (Jvm.Cond.code (⟨"com/example/forkline/forkline/bucketing/MurmurHash3Hash32PinLaw", "mixBlock", "(II)I"⟩ : MethodName) method_2_code 4 (some .int) :: ws) ({ frames := 0, cells := 0, slots := 0, locals := 0 } : Room)) (fun a U => a = #[(.int p1), (.int p2)] ∧ Z.Warmed39 U.vm ∧ U.heap = h0) (fun _ _ _ _ _ => True) (fun _ U o U' => ∃ v L, o = .returned v ∧ Q4 Z p1 p2 h0 n0 v U'.heap L ∧ FrameEnd U o U' L ({ frames := 0, cells := 0, slots := 0, locals := 0 } : Room).cells ({ frames := 0, cells := 0, slots := 0, locals := 0 } : Room).slots) := by
  refine MetFree.of_bodySF (plainFor_of_name pn_com_example_forkline_forkline_bucketing_MurmurHash3Hash32PinLaw) hisR ?_
  intro p e s m args below meth c s₁ Bd hml0 hP hK
  obtain ⟨rfl, hZ, hh⟩ := hP
  have hx := Bd.exec
  have hby := Bd.bytes
  have hml : c.maxLocals = 4 := hml0
  have hown : s.vm.findClass "com/example/forkline/forkline/bucketing/MurmurHash3Hash32PinLaw" = some m.cls := findClass_of_methodNamed Bd.named
  have hnm := (name_of_methodNamed Bd.named Bd.method).1
  have X0 : Stand p l e ({ frames := 0, cells := 0, slots := 0, locals := 0 } : Room) s m #[(.int p1), (.int p2)] below meth c s₁ [] 0 0 := Stand.of_body Bd
  have e0 : s₁.heap = h0 := by rw [← hh, Bd.state]; rfl
  have N0 := Fr.nil n0
  have pre0 : ∀ tG, Steps p.tables e below (s₁.setTop (mkF m 0 #[.val (.int p1), .val (.int p2), .unset, .unset] [])) tG → Steps p.tables e below (s₁.setTop (entryFrame m #[(.int p1), (.int p2)] 4)) tG := fun tG kG => castTop (ef_rm4 m p1 p2) kG
  obtain ⟨fs, hr, hrun, hended, hW, hsame⟩ := X0.leave (v := some (.int (own_mb p1 p2))) (fun h => by rw [Bd.returns] at h; cases h)
  refine ⟨_, _, pre0 _ ?_, hrun, hended, _, _, rfl, ?_, ⟨_, rfl⟩, hW, hsame.mono (by decide) (by decide)⟩
  · refine own_iloadN X0.here hx (hb hby d_method_2_code_0) rfl ?_
    refine X0.ldcInt hx hown (mvT hZ (hw _ (List.mem_of_getElem? (i := 26) rfl))) (g := (mkF m 1 #[.val (.int p1), .val (.int p2), .unset, .unset] [(.int p2)])) rfl (hb hby d_method_2_code_1) _ ?_
    show Steps p.tables e below (s₁.setTop (mkF m 3 #[.val (.int p1), .val (.int p2), .unset, .unset] [(.int (-862048943)), (.int p2)])) _
    refine own_imul X0.here hx (hb hby d_method_2_code_3) ?_
    refine own_istoreN X0.here hx (hb hby d_method_2_code_4) (l' := #[.val (.int p1), .val (.int p2), .val (.int (p2 * (-862048943 : Int32))), .unset]) rfl ?_
    refine own_iloadN X0.here hx (hb hby d_method_2_code_5) rfl ?_
    refine own_bipush X0.here hx (15 : Int32) (hb hby d_method_2_code_6) rfl ?_
    refine own_ishl X0.here hx (hb hby d_method_2_code_8) ?_
    refine own_iloadN X0.here hx (hb hby d_method_2_code_9) rfl ?_
    refine own_bipush X0.here hx (17 : Int32) (hb hby d_method_2_code_10) rfl ?_
    refine own_iushr X0.here hx (hb hby d_method_2_code_12) ?_
    refine own_ior X0.here hx (hb hby d_method_2_code_13) ?_
    show Steps p.tables e below (s₁.setTop (mkF m 14 #[.val (.int p1), .val (.int p2), .val (.int (p2 * (-862048943 : Int32))), .unset] [(.int (own_rotl (p2 * (-862048943 : Int32)) (15 : Int32)))])) _
    refine own_istoreN X0.here hx (hb hby d_method_2_code_14) (l' := #[.val (.int p1), .val (.int p2), .val (.int (own_rotl (p2 * (-862048943 : Int32)) (15 : Int32))), .unset]) rfl ?_
    refine own_iloadN X0.here hx (hb hby d_method_2_code_15) rfl ?_
    refine X0.ldcInt hx hown (mvT hZ (hw _ (List.mem_of_getElem? (i := 27) rfl))) (g := (mkF m 16 #[.val (.int p1), .val (.int p2), .val (.int (own_rotl (p2 * (-862048943 : Int32)) (15 : Int32))), .unset] [(.int (own_rotl (p2 * (-862048943 : Int32)) (15 : Int32)))])) rfl (hb hby d_method_2_code_16) _ ?_
    show Steps p.tables e below (s₁.setTop (mkF m 18 #[.val (.int p1), .val (.int p2), .val (.int (own_rotl (p2 * (-862048943 : Int32)) (15 : Int32))), .unset] [(.int 461845907), (.int (own_rotl (p2 * (-862048943 : Int32)) (15 : Int32)))])) _
    refine own_imul X0.here hx (hb hby d_method_2_code_18) ?_
    show Steps p.tables e below (s₁.setTop (mkF m 19 #[.val (.int p1), .val (.int p2), .val (.int (own_rotl (p2 * (-862048943 : Int32)) (15 : Int32))), .unset] [(.int (own_scr p2))])) _
    refine own_istoreN X0.here hx (hb hby d_method_2_code_19) (l' := #[.val (.int p1), .val (.int p2), .val (.int (own_scr p2)), .unset]) rfl ?_
    refine own_iloadN X0.here hx (hb hby d_method_2_code_20) rfl ?_
    refine own_iloadN X0.here hx (hb hby d_method_2_code_21) rfl ?_
    refine own_ixor X0.here hx (hb hby d_method_2_code_22) ?_
    refine own_istoreN X0.here hx (hb hby d_method_2_code_23) (l' := #[.val (.int p1), .val (.int p2), .val (.int (own_scr p2)), .val (.int (p1 ^^^ (own_scr p2)))]) rfl ?_
    refine own_iloadN X0.here hx (hb hby d_method_2_code_24) rfl ?_
    refine own_bipush X0.here hx (13 : Int32) (hb hby d_method_2_code_25) rfl ?_
    refine own_ishl X0.here hx (hb hby d_method_2_code_27) ?_
    refine own_iloadN X0.here hx (hb hby d_method_2_code_28) rfl ?_
    refine own_bipush X0.here hx (19 : Int32) (hb hby d_method_2_code_29) rfl ?_
    refine own_iushr X0.here hx (hb hby d_method_2_code_31) ?_
    refine own_ior X0.here hx (hb hby d_method_2_code_32) ?_
    show Steps p.tables e below (s₁.setTop (mkF m 33 #[.val (.int p1), .val (.int p2), .val (.int (own_scr p2)), .val (.int (p1 ^^^ (own_scr p2)))] [(.int (own_rotl (p1 ^^^ (own_scr p2)) (13 : Int32)))])) _
    refine own_istoreN X0.here hx (hb hby d_method_2_code_33) (l' := #[.val (.int p1), .val (.int p2), .val (.int (own_scr p2)), .val (.int (own_rotl (p1 ^^^ (own_scr p2)) (13 : Int32)))]) rfl ?_
    refine own_iloadN X0.here hx (hb hby d_method_2_code_34) rfl ?_
    refine own_iconst X0.here hx (5 : Int32) (hb hby d_method_2_code_35) rfl ?_
    refine own_imul X0.here hx (hb hby d_method_2_code_36) ?_
    refine X0.ldcInt hx hown (mvT hZ (hw _ (List.mem_of_getElem? (i := 28) rfl))) (g := (mkF m 37 #[.val (.int p1), .val (.int p2), .val (.int (own_scr p2)), .val (.int (own_rotl (p1 ^^^ (own_scr p2)) (13 : Int32)))] [(.int ((own_rotl (p1 ^^^ (own_scr p2)) (13 : Int32)) * (5 : Int32)))])) rfl (hb hby d_method_2_code_37) _ ?_
    show Steps p.tables e below (s₁.setTop (mkF m 39 #[.val (.int p1), .val (.int p2), .val (.int (own_scr p2)), .val (.int (own_rotl (p1 ^^^ (own_scr p2)) (13 : Int32)))] [(.int (-430675100)), (.int ((own_rotl (p1 ^^^ (own_scr p2)) (13 : Int32)) * (5 : Int32)))])) _
    refine own_iadd X0.here hx (hb hby d_method_2_code_39) ?_
    show Steps p.tables e below (s₁.setTop (mkF m 40 #[.val (.int p1), .val (.int p2), .val (.int (own_scr p2)), .val (.int (own_rotl (p1 ^^^ (own_scr p2)) (13 : Int32)))] [(.int (own_mb p1 p2))])) _
    exact retI X0 hx Bd.returns (hb hby d_method_2_code_40) hr
  · show Q4 Z p1 p2 h0 n0 _ s₁.heap _
    rw [e0]
    exact ⟨rfl, N0, rfl⟩
theorem ef_rmH_0 (m : MethodId) (x0 : Addr) : entryFrame m #[(.ref x0)] 5 = mkF m 0 #[.val (.ref x0), .unset, .unset, .unset, .unset] [] := by first | (simp [entryFrame, mkF, argsToLocals, Value.category]; done) | rfl
def QH_0 (Z : State) (a1 : Addr) (k1 : ClassId) (h0 : Heap) (n0 : Nat) (v : Option Value) (h : Heap) (L : List Loc) : Prop := v = some (.int (own_fin (((0 : Int32) ^^^ (own_scr (0 : Int32))) ^^^ (0 : Int32)))) ∧ Fr n0 L ∧ h = h0
theorem d_prog_21_method_2_code_0 : decode prog_21_method_2_code 0 = .ok (.iconst 0, 1) := by decide +kernel
theorem d_prog_21_method_2_code_1 : decode prog_21_method_2_code 1 = .ok (.istore_n 1, 1) := by decide +kernel
theorem d_prog_21_method_2_code_2 : decode prog_21_method_2_code 2 = .ok (.aload_n 0, 1) := by decide +kernel
theorem d_prog_21_method_2_code_3 : decode prog_21_method_2_code 3 = .ok (.arraylength, 1) := by decide +kernel
theorem d_prog_21_method_2_code_4 : decode prog_21_method_2_code 4 = .ok (.aload_n 0, 1) := by decide +kernel
theorem d_prog_21_method_2_code_5 : decode prog_21_method_2_code 5 = .ok (.arraylength, 1) := by decide +kernel
theorem d_prog_21_method_2_code_6 : decode prog_21_method_2_code 6 = .ok (.iconst 4, 1) := by decide +kernel
theorem d_prog_21_method_2_code_7 : decode prog_21_method_2_code 7 = .ok (.irem, 1) := by decide +kernel
theorem d_prog_21_method_2_code_8 : decode prog_21_method_2_code 8 = .ok (.isub, 1) := by decide +kernel
theorem d_prog_21_method_2_code_9 : decode prog_21_method_2_code 9 = .ok (.istore_n 2, 1) := by decide +kernel
theorem d_prog_21_method_2_code_10 : decode prog_21_method_2_code 10 = .ok (.iconst 0, 1) := by decide +kernel
theorem d_prog_21_method_2_code_11 : decode prog_21_method_2_code 11 = .ok (.istore_n 3, 1) := by decide +kernel
theorem d_prog_21_method_2_code_12 : decode prog_21_method_2_code 12 = .ok (.iload_n 3, 1) := by decide +kernel
theorem d_prog_21_method_2_code_13 : decode prog_21_method_2_code 13 = .ok (.iload_n 2, 1) := by decide +kernel
theorem d_prog_21_method_2_code_14 : decode prog_21_method_2_code 14 = .ok (.if_icmp .ge 73, 3) := by decide +kernel
theorem d_prog_21_method_2_code_87 : decode prog_21_method_2_code 87 = .ok (.iconst 0, 1) := by decide +kernel
theorem d_prog_21_method_2_code_88 : decode prog_21_method_2_code 88 = .ok (.istore_n 3, 1) := by decide +kernel
theorem d_prog_21_method_2_code_89 : decode prog_21_method_2_code 89 = .ok (.aload_n 0, 1) := by decide +kernel
theorem d_prog_21_method_2_code_90 : decode prog_21_method_2_code 90 = .ok (.arraylength, 1) := by decide +kernel
theorem d_prog_21_method_2_code_91 : decode prog_21_method_2_code 91 = .ok (.iconst 1, 1) := by decide +kernel
theorem d_prog_21_method_2_code_92 : decode prog_21_method_2_code 92 = .ok (.isub, 1) := by decide +kernel
theorem d_prog_21_method_2_code_93 : decode prog_21_method_2_code 93 = .ok (.istore 4, 2) := by decide +kernel
theorem d_prog_21_method_2_code_95 : decode prog_21_method_2_code 95 = .ok (.iload 4, 2) := by decide +kernel
theorem d_prog_21_method_2_code_97 : decode prog_21_method_2_code 97 = .ok (.iload_n 2, 1) := by decide +kernel
theorem d_prog_21_method_2_code_98 : decode prog_21_method_2_code 98 = .ok (.if_icmp .lt 23, 3) := by decide +kernel
theorem d_prog_21_method_2_code_121 : decode prog_21_method_2_code 121 = .ok (.iload_n 1, 1) := by decide +kernel
theorem d_prog_21_method_2_code_122 : decode prog_21_method_2_code 122 = .ok (.iload_n 3, 1) := by decide +kernel
theorem d_prog_21_method_2_code_123 : decode prog_21_method_2_code 123 = .ok (.invokestatic 7, 3) := by decide +kernel
theorem pd_28I29I : parseMethodDescriptor "(I)I" = some ⟨[.int], some .int⟩ := by decide +kernel
theorem d_prog_21_method_2_code_126 : decode prog_21_method_2_code 126 = .ok (.ixor, 1) := by decide +kernel
theorem d_prog_21_method_2_code_127 : decode prog_21_method_2_code 127 = .ok (.istore_n 1, 1) := by decide +kernel
theorem d_prog_21_method_2_code_128 : decode prog_21_method_2_code 128 = .ok (.iload_n 1, 1) := by decide +kernel
theorem d_prog_21_method_2_code_129 : decode prog_21_method_2_code 129 = .ok (.aload_n 0, 1) := by decide +kernel
theorem d_prog_21_method_2_code_130 : decode prog_21_method_2_code 130 = .ok (.arraylength, 1) := by decide +kernel
theorem d_prog_21_method_2_code_131 : decode prog_21_method_2_code 131 = .ok (.ixor, 1) := by decide +kernel
theorem d_prog_21_method_2_code_132 : decode prog_21_method_2_code 132 = .ok (.istore_n 1, 1) := by decide +kernel
theorem d_prog_21_method_2_code_133 : decode prog_21_method_2_code 133 = .ok (.iload_n 1, 1) := by decide +kernel
theorem d_prog_21_method_2_code_134 : decode prog_21_method_2_code 134 = .ok (.invokestatic 20, 3) := by decide +kernel
theorem d_prog_21_method_2_code_137 : decode prog_21_method_2_code 137 = .ok (.ireturn, 1) := by decide +kernel
set_option maxRecDepth 65536 in
set_option maxHeartbeats 40000000 in
theorem rmH_0 (l : Launch) (Z : State) (a0 : Array Value) (hw : ∀ d ∈ tables_1, d.before a0 Z = true) (ws : List Jvm.Cond) (a1 : Addr) (k1 : ClassId) (h0 : Heap) (n0 : Nat) (Z0 : n0 ≤ h0.size) (V1 : Arv Z h0 a1 k1 .byte (0 : Int32) [] (.int (0 : Int32))) :
    MetFree l (⟨"com/example/forkline/forkline/bucketing/MurmurHash3", "hash32", "([B)I"⟩ : MethodName) (head1 (Jvm.Cond.code (⟨"com/example/forkline/forkline/bucketing/MurmurHash3", "hash32", "([B)I"⟩ : MethodName) prog_21_method_2_code 5 (some .int) :: ws) ({ frames := 2, cells := 0, slots := 0, locals := 26 } : Room)) (fun a U => a = #[(.ref a1)] ∧ Z.Warmed39 U.vm ∧ U.heap = h0) (fun _ _ _ _ _ => True) (fun _ U o U' => ∃ v L, o = .returned v ∧ QH_0 Z a1 k1 h0 n0 v U'.heap L ∧ FrameEnd U o U' L ({ frames := 2, cells := 0, slots := 0, locals := 26 } : Room).cells ({ frames := 2, cells := 0, slots := 0, locals := 26 } : Room).slots) := by
  refine MetFree.of_bodySF (plainFor_of_name pn_com_example_forkline_forkline_bucketing_MurmurHash3) hisR ?_
  intro p e s m args below meth c s₁ Bd hml0 hP hK
  obtain ⟨rfl, hZ, hh⟩ := hP
  have hx := Bd.exec
  have hby := Bd.bytes
  have hml : c.maxLocals = 5 := hml0
  have hown : s.vm.findClass "com/example/forkline/forkline/bucketing/MurmurHash3" = some m.cls := findClass_of_methodNamed Bd.named
  have hnm := (name_of_methodNamed Bd.named Bd.method).1
  have X0 : Stand p l e ({ frames := 2, cells := 0, slots := 0, locals := 26 } : Room) s m #[(.ref a1)] below meth c s₁ [] 0 0 := Stand.of_body Bd
  have e0 : s₁.heap = h0 := by rw [← hh, Bd.state]; rfl
  have N0 := Fr.nil n0
  have pre0 : ∀ tG, Steps p.tables e below (s₁.setTop (mkF m 0 #[.val (.ref a1), .unset, .unset, .unset, .unset] [])) tG → Steps p.tables e below (s₁.setTop (entryFrame m #[(.ref a1)] 5)) tG := fun tG kG => castTop (ef_rmH_0 m a1) kG
  obtain ⟨cl2, Ar2, -, S2, M2, -, -⟩ := id V1
  obtain ⟨cl3, Ar3, -, S3, M3, -, -⟩ := id V1
  obtain ⟨cl4, Ar4, -, S4, M4, -, -⟩ := id V1
  obtain ⟨_, _, ⟨T5, L5, k5, n5⟩, -, X5, ⟨Lc5, hQ5, l5, y5, z5⟩, st5⟩ := Jvm.LawKit.callS X0 hx (y := (⟨"com/example/forkline/forkline/bucketing/MurmurHash3", "scramble", "(I)I"⟩ : MethodName)) hown (mvT hZ (hw _ (List.mem_of_getElem? (i := 8) rfl))) (mvT hZ (hw _ (List.mem_of_getElem? (i := 9) rfl))) (mvT hZ (hw _ (List.mem_of_getElem? (i := 6) rfl))) (mvT hZ (hw _ (List.mem_of_getElem? (i := 10) rfl))) (by decide) (backOf (W := 1) (rm2 l Z a0 hw [] (0 : Int32) h0 n0 Z0) hZ (hw _ (List.mem_of_getElem? (i := 10) rfl)) (hw _ (List.mem_of_getElem? (i := 6) rfl)) (by decide) (by decide)) (g := (mkF m 123 #[.val (.ref a1), .val (.int 0), .val (.int 0), .val (.int 0), .val (.int (-1))] [(.int 0), (.int 0)])) rfl (by rw [hml]; rfl) (argsL := [(.int 0)]) (rest := [(.int 0)]) (lenOf pd_28I29I rfl) rfl (by show 2 * 0 + _ ≤ _; exact Nat.le_of_eq rfl) (hb hby d_prog_21_method_2_code_123) (fun _ _ => ⟨rfl, e0, (by decide : 0 + 0 ≤ _), (by decide : 0 + 0 ≤ _)⟩)
  dsimp only [Pt.U, Pt.locs, Pt.cells, Pt.slots] at X5 l5 y5 z5 st5 hQ5
  subst l5 y5 z5
  obtain ⟨rfl, N5q, e5⟩ := hQ5
  have N5 := Fr.app N0 N5q
  obtain ⟨cl6, Ar6, -, S6, M6, -, -⟩ := id V1
  obtain ⟨_, _, ⟨T7, L7, k7, n7⟩, -, X7, ⟨Lc7, hQ7, l7, y7, z7⟩, st7⟩ := Jvm.LawKit.callS X5 hx (y := (⟨"com/example/forkline/forkline/bucketing/MurmurHash3", "finalMix", "(I)I"⟩ : MethodName)) hown (mvT hZ (hw _ (List.mem_of_getElem? (i := 17) rfl))) (mvT hZ (hw _ (List.mem_of_getElem? (i := 18) rfl))) (mvT hZ (hw _ (List.mem_of_getElem? (i := 6) rfl))) (mvT hZ (hw _ (List.mem_of_getElem? (i := 19) rfl))) (by decide) (backOf (W := 0) (rm3 l Z a0 hw [] (((0 : Int32) ^^^ (own_scr (0 : Int32))) ^^^ (0 : Int32)) h0 n0 Z0) hZ (hw _ (List.mem_of_getElem? (i := 19) rfl)) (hw _ (List.mem_of_getElem? (i := 6) rfl)) (by decide) (by decide)) (g := (mkF m 134 #[.val (.ref a1), .val (.int (((0 : Int32) ^^^ (own_scr (0 : Int32))) ^^^ (0 : Int32))), .val (.int 0), .val (.int 0), .val (.int (-1))] [(.int (((0 : Int32) ^^^ (own_scr (0 : Int32))) ^^^ (0 : Int32)))])) rfl (by rw [hml]; rfl) (argsL := [(.int (((0 : Int32) ^^^ (own_scr (0 : Int32))) ^^^ (0 : Int32)))]) (rest := []) (lenOf pd_28I29I rfl) rfl (by show 2 * 0 + _ ≤ _; exact Nat.le_of_eq rfl) (hb hby d_prog_21_method_2_code_134) (fun _ _ => ⟨rfl, e5, (by decide : 0 + 0 ≤ _), (by decide : 0 + 0 ≤ _)⟩)
  dsimp only [Pt.U, Pt.locs, Pt.cells, Pt.slots] at X7 l7 y7 z7 st7 hQ7
  subst l7 y7 z7
  obtain ⟨rfl, N7q, e7⟩ := hQ7
  have N7 := Fr.app N5 N7q
  obtain ⟨fs, hr, hrun, hended, hW, hsame⟩ := X7.leave (v := some (.int (own_fin (((0 : Int32) ^^^ (own_scr (0 : Int32))) ^^^ (0 : Int32))))) (fun h => by rw [Bd.returns] at h; cases h)
  refine ⟨_, _, pre0 _ ?_, hrun, hended, _, _, rfl, ?_, ⟨_, rfl⟩, hW, hsame.mono (by decide) (by decide)⟩
  · refine own_iconst X0.here hx (0 : Int32) (hb hby d_prog_21_method_2_code_0) rfl ?_
    refine own_istoreN X0.here hx (hb hby d_prog_21_method_2_code_1) (l' := #[.val (.ref a1), .val (.int 0), .unset, .unset, .unset]) rfl ?_
    refine own_aloadN X0.here hx (hb hby d_prog_21_method_2_code_2) rfl rfl ?_
    refine X0.arraylength hx (by rw [e0]; exact Ar2.1) (State.isArrayOf_alike hZ.alike Ar2.2.1) (g := (mkF m 3 #[.val (.ref a1), .val (.int 0), .unset, .unset, .unset] [(.ref a1)])) rfl rfl (hb hby d_prog_21_method_2_code_3) _ ?_
    rw [len_of S2 M2]
    show Steps p.tables e below (s₁.setTop (mkF m 4 #[.val (.ref a1), .val (.int 0), .unset, .unset, .unset] [(.int 0)])) _
    refine own_aloadN X0.here hx (hb hby d_prog_21_method_2_code_4) rfl rfl ?_
    refine X0.arraylength hx (by rw [e0]; exact Ar3.1) (State.isArrayOf_alike hZ.alike Ar3.2.1) (g := (mkF m 5 #[.val (.ref a1), .val (.int 0), .unset, .unset, .unset] [(.ref a1), (.int 0)])) rfl rfl (hb hby d_prog_21_method_2_code_5) _ ?_
    rw [len_of S3 M3]
    show Steps p.tables e below (s₁.setTop (mkF m 6 #[.val (.ref a1), .val (.int 0), .unset, .unset, .unset] [(.int 0), (.int 0)])) _
    refine own_iconst X0.here hx (4 : Int32) (hb hby d_prog_21_method_2_code_6) rfl ?_
    refine own_irem X0.here hx (hb hby d_prog_21_method_2_code_7) (by decide) ?_
    show Steps p.tables e below (s₁.setTop (mkF m 8 #[.val (.ref a1), .val (.int 0), .unset, .unset, .unset] [(.int 0), (.int 0)])) _
    refine own_isub X0.here hx (hb hby d_prog_21_method_2_code_8) ?_
    show Steps p.tables e below (s₁.setTop (mkF m 9 #[.val (.ref a1), .val (.int 0), .unset, .unset, .unset] [(.int 0)])) _
    refine own_istoreN X0.here hx (hb hby d_prog_21_method_2_code_9) (l' := #[.val (.ref a1), .val (.int 0), .val (.int 0), .unset, .unset]) rfl ?_
    refine own_iconst X0.here hx (0 : Int32) (hb hby d_prog_21_method_2_code_10) rfl ?_
    refine own_istoreN X0.here hx (hb hby d_prog_21_method_2_code_11) (l' := #[.val (.ref a1), .val (.int 0), .val (.int 0), .val (.int 0), .unset]) rfl ?_
    refine own_iloadN X0.here hx (hb hby d_prog_21_method_2_code_12) rfl ?_
    refine own_iloadN X0.here hx (hb hby d_prog_21_method_2_code_13) rfl ?_
    refine own_icmpYes X0.here hx 14 87 rfl (hb hby d_prog_21_method_2_code_14) (flt (by decide : ¬ ((0 : Int32) < (0 : Int32)))).2.1 (by decide) (by decide) ?_
    refine own_iconst X0.here hx (0 : Int32) (hb hby d_prog_21_method_2_code_87) rfl ?_
    refine own_istoreN X0.here hx (hb hby d_prog_21_method_2_code_88) (l' := #[.val (.ref a1), .val (.int 0), .val (.int 0), .val (.int 0), .unset]) rfl ?_
    refine own_aloadN X0.here hx (hb hby d_prog_21_method_2_code_89) rfl rfl ?_
    refine X0.arraylength hx (by rw [e0]; exact Ar4.1) (State.isArrayOf_alike hZ.alike Ar4.2.1) (g := (mkF m 90 #[.val (.ref a1), .val (.int 0), .val (.int 0), .val (.int 0), .unset] [(.ref a1)])) rfl rfl (hb hby d_prog_21_method_2_code_90) _ ?_
    rw [len_of S4 M4]
    show Steps p.tables e below (s₁.setTop (mkF m 91 #[.val (.ref a1), .val (.int 0), .val (.int 0), .val (.int 0), .unset] [(.int 0)])) _
    refine own_iconst X0.here hx (1 : Int32) (hb hby d_prog_21_method_2_code_91) rfl ?_
    refine own_isub X0.here hx (hb hby d_prog_21_method_2_code_92) ?_
    show Steps p.tables e below (s₁.setTop (mkF m 93 #[.val (.ref a1), .val (.int 0), .val (.int 0), .val (.int 0), .unset] [(.int (-1))])) _
    refine own_istore X0.here hx (hb hby d_prog_21_method_2_code_93) (l' := #[.val (.ref a1), .val (.int 0), .val (.int 0), .val (.int 0), .val (.int (-1))]) rfl ?_
    refine own_iload X0.here hx (hb hby d_prog_21_method_2_code_95) rfl ?_
    refine own_iloadN X0.here hx (hb hby d_prog_21_method_2_code_97) rfl ?_
    refine own_icmpYes X0.here hx 98 121 rfl (hb hby d_prog_21_method_2_code_98) (tlt (by decide : (-1 : Int32) < (0 : Int32))).1 (by decide) (by decide) ?_
    refine own_iloadN X0.here hx (hb hby d_prog_21_method_2_code_121) rfl ?_
    refine own_iloadN X0.here hx (hb hby d_prog_21_method_2_code_122) rfl ?_
    refine st5 _ ?_
    show Steps p.tables e below (T5.setTop (mkF m 126 #[.val (.ref a1), .val (.int 0), .val (.int 0), .val (.int 0), .val (.int (-1))] [(.int (own_scr (0 : Int32))), (.int 0)])) _
    refine own_ixor X5.here hx (hb hby d_prog_21_method_2_code_126) ?_
    refine own_istoreN X5.here hx (hb hby d_prog_21_method_2_code_127) (l' := #[.val (.ref a1), .val (.int ((0 : Int32) ^^^ (own_scr (0 : Int32)))), .val (.int 0), .val (.int 0), .val (.int (-1))]) rfl ?_
    refine own_iloadN X5.here hx (hb hby d_prog_21_method_2_code_128) rfl ?_
    refine own_aloadN X5.here hx (hb hby d_prog_21_method_2_code_129) rfl rfl ?_
    refine X5.arraylength hx (by rw [e5]; exact Ar6.1) (State.isArrayOf_alike hZ.alike Ar6.2.1) (g := (mkF m 130 #[.val (.ref a1), .val (.int ((0 : Int32) ^^^ (own_scr (0 : Int32)))), .val (.int 0), .val (.int 0), .val (.int (-1))] [(.ref a1), (.int ((0 : Int32) ^^^ (own_scr (0 : Int32))))])) rfl rfl (hb hby d_prog_21_method_2_code_130) _ ?_
    rw [len_of S6 M6]
    show Steps p.tables e below (T5.setTop (mkF m 131 #[.val (.ref a1), .val (.int ((0 : Int32) ^^^ (own_scr (0 : Int32)))), .val (.int 0), .val (.int 0), .val (.int (-1))] [(.int 0), (.int ((0 : Int32) ^^^ (own_scr (0 : Int32))))])) _
    refine own_ixor X5.here hx (hb hby d_prog_21_method_2_code_131) ?_
    refine own_istoreN X5.here hx (hb hby d_prog_21_method_2_code_132) (l' := #[.val (.ref a1), .val (.int (((0 : Int32) ^^^ (own_scr (0 : Int32))) ^^^ (0 : Int32))), .val (.int 0), .val (.int 0), .val (.int (-1))]) rfl ?_
    refine own_iloadN X5.here hx (hb hby d_prog_21_method_2_code_133) rfl ?_
    refine st7 _ ?_
    show Steps p.tables e below (T7.setTop (mkF m 137 #[.val (.ref a1), .val (.int (((0 : Int32) ^^^ (own_scr (0 : Int32))) ^^^ (0 : Int32))), .val (.int 0), .val (.int 0), .val (.int (-1))] [(.int (own_fin (((0 : Int32) ^^^ (own_scr (0 : Int32))) ^^^ (0 : Int32))))])) _
    exact retI X7 hx Bd.returns (hb hby d_prog_21_method_2_code_137) hr
  · show QH_0 Z a1 k1 h0 n0 _ T7.heap _
    rw [e7]
    exact ⟨rfl, N7, rfl⟩
theorem ef_rmH_1 (m : MethodId) (x0 : Addr) : entryFrame m #[(.ref x0)] 5 = mkF m 0 #[.val (.ref x0), .unset, .unset, .unset, .unset] [] := by first | (simp [entryFrame, mkF, argsToLocals, Value.category]; done) | rfl
def QH_1 (Z : State) (a1 : Addr) (k1 : ClassId) (x0 : Int32) (h0 : Heap) (n0 : Nat) (v : Option Value) (h : Heap) (L : List Loc) : Prop := v = some (.int (own_fin (((0 : Int32) ^^^ (own_scr (own_t1 x0))) ^^^ (1 : Int32)))) ∧ Fr n0 L ∧ h = h0
theorem d_prog_21_method_2_code_101 : decode prog_21_method_2_code 101 = .ok (.iload_n 3, 1) := by decide +kernel
theorem d_prog_21_method_2_code_102 : decode prog_21_method_2_code 102 = .ok (.bipush 8, 2) := by decide +kernel
theorem d_prog_21_method_2_code_104 : decode prog_21_method_2_code 104 = .ok (.ishl, 1) := by decide +kernel
theorem d_prog_21_method_2_code_105 : decode prog_21_method_2_code 105 = .ok (.aload_n 0, 1) := by decide +kernel
theorem d_prog_21_method_2_code_106 : decode prog_21_method_2_code 106 = .ok (.iload 4, 2) := by decide +kernel
theorem d_prog_21_method_2_code_108 : decode prog_21_method_2_code 108 = .ok (.baload, 1) := by decide +kernel
theorem d_prog_21_method_2_code_109 : decode prog_21_method_2_code 109 = .ok (.sipush 255, 3) := by decide +kernel
theorem d_prog_21_method_2_code_112 : decode prog_21_method_2_code 112 = .ok (.iand, 1) := by decide +kernel
theorem d_prog_21_method_2_code_113 : decode prog_21_method_2_code 113 = .ok (.ior, 1) := by decide +kernel
theorem d_prog_21_method_2_code_114 : decode prog_21_method_2_code 114 = .ok (.istore_n 3, 1) := by decide +kernel
theorem d_prog_21_method_2_code_115 : decode prog_21_method_2_code 115 = .ok (.iinc 4 (-1), 3) := by decide +kernel
theorem d_prog_21_method_2_code_118 : decode prog_21_method_2_code 118 = .ok (.goto (-23), 3) := by decide +kernel
set_option maxRecDepth 65536 in
set_option maxHeartbeats 40000000 in
theorem rmH_1 (l : Launch) (Z : State) (a0 : Array Value) (hw : ∀ d ∈ tables_1, d.before a0 Z = true) (ws : List Jvm.Cond) (a1 : Addr) (k1 : ClassId) (x0 : Int32) (h0 : Heap) (n0 : Nat) (Z0 : n0 ≤ h0.size) (V1 : Arv Z h0 a1 k1 .byte (1 : Int32) [(.int x0)] (.int (0 : Int32))) :
    MetFree l (⟨"com/example/forkline/forkline/bucketing/MurmurHash3", "hash32", "([B)I"⟩ : MethodName) (head1 (Jvm.Cond.code (⟨"com/example/forkline/forkline/bucketing/MurmurHash3", "hash32", "([B)I"⟩ : MethodName) prog_21_method_2_code 5 (some .int) :: ws) ({ frames := 2, cells := 0, slots := 0, locals := 26 } : Room)) (fun a U => a = #[(.ref a1)] ∧ Z.Warmed39 U.vm ∧ U.heap = h0) (fun _ _ _ _ _ => True) (fun _ U o U' => ∃ v L, o = .returned v ∧ QH_1 Z a1 k1 x0 h0 n0 v U'.heap L ∧ FrameEnd U o U' L ({ frames := 2, cells := 0, slots := 0, locals := 26 } : Room).cells ({ frames := 2, cells := 0, slots := 0, locals := 26 } : Room).slots) := by
  refine MetFree.of_bodySF (plainFor_of_name pn_com_example_forkline_forkline_bucketing_MurmurHash3) hisR ?_
  intro p e s m args below meth c s₁ Bd hml0 hP hK
  obtain ⟨rfl, hZ, hh⟩ := hP
  have hx := Bd.exec
  have hby := Bd.bytes
  have hml : c.maxLocals = 5 := hml0
  have hown : s.vm.findClass "com/example/forkline/forkline/bucketing/MurmurHash3" = some m.cls := findClass_of_methodNamed Bd.named
  have hnm := (name_of_methodNamed Bd.named Bd.method).1
  have X0 : Stand p l e ({ frames := 2, cells := 0, slots := 0, locals := 26 } : Room) s m #[(.ref a1)] below meth c s₁ [] 0 0 := Stand.of_body Bd
  have e0 : s₁.heap = h0 := by rw [← hh, Bd.state]; rfl
  have N0 := Fr.nil n0
  have pre0 : ∀ tG, Steps p.tables e below (s₁.setTop (mkF m 0 #[.val (.ref a1), .unset, .unset, .unset, .unset] [])) tG → Steps p.tables e below (s₁.setTop (entryFrame m #[(.ref a1)] 5)) tG := fun tG kG => castTop (ef_rmH_1 m a1) kG
  obtain ⟨cl8, Ar8, -, S8, M8, -, -⟩ := id V1
  obtain ⟨cl9, Ar9, -, S9, M9, -, -⟩ := id V1
  obtain ⟨cl10, Ar10, -, S10, M10, -, -⟩ := id V1
  obtain ⟨cl11, Ar11, q11, S11, M11, H11, J11⟩ := id V1
  have hin11 : ¬ ((0 : Int32) < 0 ∨ cl11.slots.size ≤ ((0 : Int32)).toNatClampNeg) := inb_of S11 ⟨by decide, by decide⟩
  have hat11 : cl11.slots[((0 : Int32)).toNatClampNeg]? = some (.int x0) := Has.at H11 hin11 rfl
  obtain ⟨_, _, ⟨T12, L12, k12, n12⟩, -, X12, ⟨Lc12, hQ12, l12, y12, z12⟩, st12⟩ := Jvm.LawKit.callS X0 hx (y := (⟨"com/example/forkline/forkline/bucketing/MurmurHash3", "scramble", "(I)I"⟩ : MethodName)) hown (mvT hZ (hw _ (List.mem_of_getElem? (i := 8) rfl))) (mvT hZ (hw _ (List.mem_of_getElem? (i := 9) rfl))) (mvT hZ (hw _ (List.mem_of_getElem? (i := 6) rfl))) (mvT hZ (hw _ (List.mem_of_getElem? (i := 10) rfl))) (by decide) (backOf (W := 1) (rm2 l Z a0 hw [] (own_t1 x0) h0 n0 Z0) hZ (hw _ (List.mem_of_getElem? (i := 10) rfl)) (hw _ (List.mem_of_getElem? (i := 6) rfl)) (by decide) (by decide)) (g := (mkF m 123 #[.val (.ref a1), .val (.int 0), .val (.int 0), .val (.int (own_t1 x0)), .val (.int (-1))] [(.int (own_t1 x0)), (.int 0)])) rfl (by rw [hml]; rfl) (argsL := [(.int (own_t1 x0))]) (rest := [(.int 0)]) (lenOf pd_28I29I rfl) rfl (by show 2 * 0 + _ ≤ _; exact Nat.le_of_eq rfl) (hb hby d_prog_21_method_2_code_123) (fun _ _ => ⟨rfl, e0, (by decide : 0 + 0 ≤ _), (by decide : 0 + 0 ≤ _)⟩)
  dsimp only [Pt.U, Pt.locs, Pt.cells, Pt.slots] at X12 l12 y12 z12 st12 hQ12
  subst l12 y12 z12
  obtain ⟨rfl, N12q, e12⟩ := hQ12
  have N12 := Fr.app N0 N12q
  obtain ⟨cl13, Ar13, -, S13, M13, -, -⟩ := id V1
  obtain ⟨_, _, ⟨T14, L14, k14, n14⟩, -, X14, ⟨Lc14, hQ14, l14, y14, z14⟩, st14⟩ := Jvm.LawKit.callS X12 hx (y := (⟨"com/example/forkline/forkline/bucketing/MurmurHash3", "finalMix", "(I)I"⟩ : MethodName)) hown (mvT hZ (hw _ (List.mem_of_getElem? (i := 17) rfl))) (mvT hZ (hw _ (List.mem_of_getElem? (i := 18) rfl))) (mvT hZ (hw _ (List.mem_of_getElem? (i := 6) rfl))) (mvT hZ (hw _ (List.mem_of_getElem? (i := 19) rfl))) (by decide) (backOf (W := 0) (rm3 l Z a0 hw [] (((0 : Int32) ^^^ (own_scr (own_t1 x0))) ^^^ (1 : Int32)) h0 n0 Z0) hZ (hw _ (List.mem_of_getElem? (i := 19) rfl)) (hw _ (List.mem_of_getElem? (i := 6) rfl)) (by decide) (by decide)) (g := (mkF m 134 #[.val (.ref a1), .val (.int (((0 : Int32) ^^^ (own_scr (own_t1 x0))) ^^^ (1 : Int32))), .val (.int 0), .val (.int (own_t1 x0)), .val (.int (-1))] [(.int (((0 : Int32) ^^^ (own_scr (own_t1 x0))) ^^^ (1 : Int32)))])) rfl (by rw [hml]; rfl) (argsL := [(.int (((0 : Int32) ^^^ (own_scr (own_t1 x0))) ^^^ (1 : Int32)))]) (rest := []) (lenOf pd_28I29I rfl) rfl (by show 2 * 0 + _ ≤ _; exact Nat.le_of_eq rfl) (hb hby d_prog_21_method_2_code_134) (fun _ _ => ⟨rfl, e12, (by decide : 0 + 0 ≤ _), (by decide : 0 + 0 ≤ _)⟩)
  dsimp only [Pt.U, Pt.locs, Pt.cells, Pt.slots] at X14 l14 y14 z14 st14 hQ14
  subst l14 y14 z14
  obtain ⟨rfl, N14q, e14⟩ := hQ14
  have N14 := Fr.app N12 N14q
  obtain ⟨fs, hr, hrun, hended, hW, hsame⟩ := X14.leave (v := some (.int (own_fin (((0 : Int32) ^^^ (own_scr (own_t1 x0))) ^^^ (1 : Int32))))) (fun h => by rw [Bd.returns] at h; cases h)
  refine ⟨_, _, pre0 _ ?_, hrun, hended, _, _, rfl, ?_, ⟨_, rfl⟩, hW, hsame.mono (by decide) (by decide)⟩
  · refine own_iconst X0.here hx (0 : Int32) (hb hby d_prog_21_method_2_code_0) rfl ?_
    refine own_istoreN X0.here hx (hb hby d_prog_21_method_2_code_1) (l' := #[.val (.ref a1), .val (.int 0), .unset, .unset, .unset]) rfl ?_
    refine own_aloadN X0.here hx (hb hby d_prog_21_method_2_code_2) rfl rfl ?_
    refine X0.arraylength hx (by rw [e0]; exact Ar8.1) (State.isArrayOf_alike hZ.alike Ar8.2.1) (g := (mkF m 3 #[.val (.ref a1), .val (.int 0), .unset, .unset, .unset] [(.ref a1)])) rfl rfl (hb hby d_prog_21_method_2_code_3) _ ?_
    rw [len_of S8 M8]
    show Steps p.tables e below (s₁.setTop (mkF m 4 #[.val (.ref a1), .val (.int 0), .unset, .unset, .unset] [(.int 1)])) _
    refine own_aloadN X0.here hx (hb hby d_prog_21_method_2_code_4) rfl rfl ?_
    refine X0.arraylength hx (by rw [e0]; exact Ar9.1) (State.isArrayOf_alike hZ.alike Ar9.2.1) (g := (mkF m 5 #[.val (.ref a1), .val (.int 0), .unset, .unset, .unset] [(.ref a1), (.int 1)])) rfl rfl (hb hby d_prog_21_method_2_code_5) _ ?_
    rw [len_of S9 M9]
    show Steps p.tables e below (s₁.setTop (mkF m 6 #[.val (.ref a1), .val (.int 0), .unset, .unset, .unset] [(.int 1), (.int 1)])) _
    refine own_iconst X0.here hx (4 : Int32) (hb hby d_prog_21_method_2_code_6) rfl ?_
    refine own_irem X0.here hx (hb hby d_prog_21_method_2_code_7) (by decide) ?_
    show Steps p.tables e below (s₁.setTop (mkF m 8 #[.val (.ref a1), .val (.int 0), .unset, .unset, .unset] [(.int 1), (.int 1)])) _
    refine own_isub X0.here hx (hb hby d_prog_21_method_2_code_8) ?_
    show Steps p.tables e below (s₁.setTop (mkF m 9 #[.val (.ref a1), .val (.int 0), .unset, .unset, .unset] [(.int 0)])) _
    refine own_istoreN X0.here hx (hb hby d_prog_21_method_2_code_9) (l' := #[.val (.ref a1), .val (.int 0), .val (.int 0), .unset, .unset]) rfl ?_
    refine own_iconst X0.here hx (0 : Int32) (hb hby d_prog_21_method_2_code_10) rfl ?_
    refine own_istoreN X0.here hx (hb hby d_prog_21_method_2_code_11) (l' := #[.val (.ref a1), .val (.int 0), .val (.int 0), .val (.int 0), .unset]) rfl ?_
    refine own_iloadN X0.here hx (hb hby d_prog_21_method_2_code_12) rfl ?_
    refine own_iloadN X0.here hx (hb hby d_prog_21_method_2_code_13) rfl ?_
    refine own_icmpYes X0.here hx 14 87 rfl (hb hby d_prog_21_method_2_code_14) (flt (by decide : ¬ ((0 : Int32) < (0 : Int32)))).2.1 (by decide) (by decide) ?_
    refine own_iconst X0.here hx (0 : Int32) (hb hby d_prog_21_method_2_code_87) rfl ?_
    refine own_istoreN X0.here hx (hb hby d_prog_21_method_2_code_88) (l' := #[.val (.ref a1), .val (.int 0), .val (.int 0), .val (.int 0), .unset]) rfl ?_
    refine own_aloadN X0.here hx (hb hby d_prog_21_method_2_code_89) rfl rfl ?_
    refine X0.arraylength hx (by rw [e0]; exact Ar10.1) (State.isArrayOf_alike hZ.alike Ar10.2.1) (g := (mkF m 90 #[.val (.ref a1), .val (.int 0), .val (.int 0), .val (.int 0), .unset] [(.ref a1)])) rfl rfl (hb hby d_prog_21_method_2_code_90) _ ?_
    rw [len_of S10 M10]
    show Steps p.tables e below (s₁.setTop (mkF m 91 #[.val (.ref a1), .val (.int 0), .val (.int 0), .val (.int 0), .unset] [(.int 1)])) _
    refine own_iconst X0.here hx (1 : Int32) (hb hby d_prog_21_method_2_code_91) rfl ?_
    refine own_isub X0.here hx (hb hby d_prog_21_method_2_code_92) ?_
    show Steps p.tables e below (s₁.setTop (mkF m 93 #[.val (.ref a1), .val (.int 0), .val (.int 0), .val (.int 0), .unset] [(.int 0)])) _
    refine own_istore X0.here hx (hb hby d_prog_21_method_2_code_93) (l' := #[.val (.ref a1), .val (.int 0), .val (.int 0), .val (.int 0), .val (.int 0)]) rfl ?_
    refine own_iload X0.here hx (hb hby d_prog_21_method_2_code_95) rfl ?_
    refine own_iloadN X0.here hx (hb hby d_prog_21_method_2_code_97) rfl ?_
    refine own_icmpNo X0.here hx (hb hby d_prog_21_method_2_code_98) (flt (by decide : ¬ ((0 : Int32) < (0 : Int32)))).1 ?_
    refine own_iloadN X0.here hx (hb hby d_prog_21_method_2_code_101) rfl ?_
    refine own_bipush X0.here hx (8 : Int32) (hb hby d_prog_21_method_2_code_102) rfl ?_
    refine own_ishl X0.here hx (hb hby d_prog_21_method_2_code_104) ?_
    show Steps p.tables e below (s₁.setTop (mkF m 105 #[.val (.ref a1), .val (.int 0), .val (.int 0), .val (.int 0), .val (.int 0)] [(.int 0)])) _
    refine own_aloadN X0.here hx (hb hby d_prog_21_method_2_code_105) rfl rfl ?_
    refine own_iload X0.here hx (hb hby d_prog_21_method_2_code_106) rfl ?_
    refine X0.baloadBytes hx (j := (0 : Int32)) (v := (.int x0)) (by rw [e0]; exact Ar11.1) (State.isArrayOf_alike hZ.alike Ar11.2.1) Ar11.2.2 hin11 hat11 (g := (mkF m 108 #[.val (.ref a1), .val (.int 0), .val (.int 0), .val (.int 0), .val (.int 0)] [(.int 0), (.ref a1), (.int 0)])) rfl rfl (hb hby d_prog_21_method_2_code_108) _ ?_
    show Steps p.tables e below (s₁.setTop (mkF m 109 #[.val (.ref a1), .val (.int 0), .val (.int 0), .val (.int 0), .val (.int 0)] [(.int x0), (.int 0)])) _
    refine own_sipush X0.here hx (255 : Int32) (hb hby d_prog_21_method_2_code_109) rfl ?_
    refine own_iand X0.here hx (hb hby d_prog_21_method_2_code_112) ?_
    refine own_ior X0.here hx (hb hby d_prog_21_method_2_code_113) ?_
    show Steps p.tables e below (s₁.setTop (mkF m 114 #[.val (.ref a1), .val (.int 0), .val (.int 0), .val (.int 0), .val (.int 0)] [(.int (own_t1 x0))])) _
    refine own_istoreN X0.here hx (hb hby d_prog_21_method_2_code_114) (l' := #[.val (.ref a1), .val (.int 0), .val (.int 0), .val (.int (own_t1 x0)), .val (.int 0)]) rfl ?_
    refine own_iinc X0.here hx (-1 : Int32) (hb hby d_prog_21_method_2_code_115) rfl rfl (l' := #[.val (.ref a1), .val (.int 0), .val (.int 0), .val (.int (own_t1 x0)), .val (.int (-1))]) rfl ?_
    refine own_goto X0.here hx 118 95 rfl (hb hby d_prog_21_method_2_code_118) (by decide) (by decide) ?_
    refine own_iload X0.here hx (hb hby d_prog_21_method_2_code_95) rfl ?_
    refine own_iloadN X0.here hx (hb hby d_prog_21_method_2_code_97) rfl ?_
    refine own_icmpYes X0.here hx 98 121 rfl (hb hby d_prog_21_method_2_code_98) (tlt (by decide : (-1 : Int32) < (0 : Int32))).1 (by decide) (by decide) ?_
    refine own_iloadN X0.here hx (hb hby d_prog_21_method_2_code_121) rfl ?_
    refine own_iloadN X0.here hx (hb hby d_prog_21_method_2_code_122) rfl ?_
    refine st12 _ ?_
    show Steps p.tables e below (T12.setTop (mkF m 126 #[.val (.ref a1), .val (.int 0), .val (.int 0), .val (.int (own_t1 x0)), .val (.int (-1))] [(.int (own_scr (own_t1 x0))), (.int 0)])) _
    refine own_ixor X12.here hx (hb hby d_prog_21_method_2_code_126) ?_
    refine own_istoreN X12.here hx (hb hby d_prog_21_method_2_code_127) (l' := #[.val (.ref a1), .val (.int ((0 : Int32) ^^^ (own_scr (own_t1 x0)))), .val (.int 0), .val (.int (own_t1 x0)), .val (.int (-1))]) rfl ?_
    refine own_iloadN X12.here hx (hb hby d_prog_21_method_2_code_128) rfl ?_
    refine own_aloadN X12.here hx (hb hby d_prog_21_method_2_code_129) rfl rfl ?_
    refine X12.arraylength hx (by rw [e12]; exact Ar13.1) (State.isArrayOf_alike hZ.alike Ar13.2.1) (g := (mkF m 130 #[.val (.ref a1), .val (.int ((0 : Int32) ^^^ (own_scr (own_t1 x0)))), .val (.int 0), .val (.int (own_t1 x0)), .val (.int (-1))] [(.ref a1), (.int ((0 : Int32) ^^^ (own_scr (own_t1 x0))))])) rfl rfl (hb hby d_prog_21_method_2_code_130) _ ?_
    rw [len_of S13 M13]
    show Steps p.tables e below (T12.setTop (mkF m 131 #[.val (.ref a1), .val (.int ((0 : Int32) ^^^ (own_scr (own_t1 x0)))), .val (.int 0), .val (.int (own_t1 x0)), .val (.int (-1))] [(.int 1), (.int ((0 : Int32) ^^^ (own_scr (own_t1 x0))))])) _
    refine own_ixor X12.here hx (hb hby d_prog_21_method_2_code_131) ?_
    refine own_istoreN X12.here hx (hb hby d_prog_21_method_2_code_132) (l' := #[.val (.ref a1), .val (.int (((0 : Int32) ^^^ (own_scr (own_t1 x0))) ^^^ (1 : Int32))), .val (.int 0), .val (.int (own_t1 x0)), .val (.int (-1))]) rfl ?_
    refine own_iloadN X12.here hx (hb hby d_prog_21_method_2_code_133) rfl ?_
    refine st14 _ ?_
    show Steps p.tables e below (T14.setTop (mkF m 137 #[.val (.ref a1), .val (.int (((0 : Int32) ^^^ (own_scr (own_t1 x0))) ^^^ (1 : Int32))), .val (.int 0), .val (.int (own_t1 x0)), .val (.int (-1))] [(.int (own_fin (((0 : Int32) ^^^ (own_scr (own_t1 x0))) ^^^ (1 : Int32))))])) _
    exact retI X14 hx Bd.returns (hb hby d_prog_21_method_2_code_137) hr
  · show QH_1 Z a1 k1 x0 h0 n0 _ T14.heap _
    rw [e14]
    exact ⟨rfl, N14, rfl⟩
theorem ef_rmH_2 (m : MethodId) (x0 : Addr) : entryFrame m #[(.ref x0)] 5 = mkF m 0 #[.val (.ref x0), .unset, .unset, .unset, .unset] [] := by first | (simp [entryFrame, mkF, argsToLocals, Value.category]; done) | rfl
def QH_2 (Z : State) (a1 : Addr) (k1 : ClassId) (x0 : Int32) (x1 : Int32) (h0 : Heap) (n0 : Nat) (v : Option Value) (h : Heap) (L : List Loc) : Prop := v = some (.int (own_fin (((0 : Int32) ^^^ (own_scr (own_t2 x0 x1))) ^^^ (2 : Int32)))) ∧ Fr n0 L ∧ h = h0
set_option maxRecDepth 65536 in
set_option maxHeartbeats 40000000 in
theorem rmH_2 (l : Launch) (Z : State) (a0 : Array Value) (hw : ∀ d ∈ tables_1, d.before a0 Z = true) (ws : List Jvm.Cond) (a1 : Addr) (k1 : ClassId) (x0 : Int32) (x1 : Int32) (h0 : Heap) (n0 : Nat) (Z0 : n0 ≤ h0.size) (V1 : Arv Z h0 a1 k1 .byte (2 : Int32) [(.int x0), (.int x1)] (.int (0 : Int32))) :
    MetFree l (⟨"com/example/forkline/forkline/bucketing/MurmurHash3", "hash32", "([B)I"⟩ : MethodName) (head1 (Jvm.Cond.code (⟨"com/example/forkline/forkline/bucketing/MurmurHash3", "hash32", "([B)I"⟩ : MethodName) prog_21_method_2_code 5 (some .int) :: ws) ({ frames := 2, cells := 0, slots := 0, locals := 26 } : Room)) (fun a U => a = #[(.ref a1)] ∧ Z.Warmed39 U.vm ∧ U.heap = h0) (fun _ _ _ _ _ => True) (fun _ U o U' => ∃ v L, o = .returned v ∧ QH_2 Z a1 k1 x0 x1 h0 n0 v U'.heap L ∧ FrameEnd U o U' L ({ frames := 2, cells := 0, slots := 0, locals := 26 } : Room).cells ({ frames := 2, cells := 0, slots := 0, locals := 26 } : Room).slots) := by
  refine MetFree.of_bodySF (plainFor_of_name pn_com_example_forkline_forkline_bucketing_MurmurHash3) hisR ?_
  intro p e s m args below meth c s₁ Bd hml0 hP hK
  obtain ⟨rfl, hZ, hh⟩ := hP
  have hx := Bd.exec
  have hby := Bd.bytes
  have hml : c.maxLocals = 5 := hml0
  have hown : s.vm.findClass "com/example/forkline/forkline/bucketing/MurmurHash3" = some m.cls := findClass_of_methodNamed Bd.named
  have hnm := (name_of_methodNamed Bd.named Bd.method).1
  have X0 : Stand p l e ({ frames := 2, cells := 0, slots := 0, locals := 26 } : Room) s m #[(.ref a1)] below meth c s₁ [] 0 0 := Stand.of_body Bd
  have e0 : s₁.heap = h0 := by rw [← hh, Bd.state]; rfl
  have N0 := Fr.nil n0
  have pre0 : ∀ tG, Steps p.tables e below (s₁.setTop (mkF m 0 #[.val (.ref a1), .unset, .unset, .unset, .unset] [])) tG → Steps p.tables e below (s₁.setTop (entryFrame m #[(.ref a1)] 5)) tG := fun tG kG => castTop (ef_rmH_2 m a1) kG
  obtain ⟨cl15, Ar15, -, S15, M15, -, -⟩ := id V1
  obtain ⟨cl16, Ar16, -, S16, M16, -, -⟩ := id V1
  obtain ⟨cl17, Ar17, -, S17, M17, -, -⟩ := id V1
  obtain ⟨cl18, Ar18, q18, S18, M18, H18, J18⟩ := id V1
  have hin18 : ¬ ((1 : Int32) < 0 ∨ cl18.slots.size ≤ ((1 : Int32)).toNatClampNeg) := inb_of S18 ⟨by decide, by decide⟩
  have hat18 : cl18.slots[((1 : Int32)).toNatClampNeg]? = some (.int x1) := Has.at H18 hin18 rfl
  obtain ⟨cl19, Ar19, q19, S19, M19, H19, J19⟩ := id V1
  have hin19 : ¬ ((0 : Int32) < 0 ∨ cl19.slots.size ≤ ((0 : Int32)).toNatClampNeg) := inb_of S19 ⟨by decide, by decide⟩
  have hat19 : cl19.slots[((0 : Int32)).toNatClampNeg]? = some (.int x0) := Has.at H19 hin19 rfl
  obtain ⟨_, _, ⟨T20, L20, k20, n20⟩, -, X20, ⟨Lc20, hQ20, l20, y20, z20⟩, st20⟩ := Jvm.LawKit.callS X0 hx (y := (⟨"com/example/forkline/forkline/bucketing/MurmurHash3", "scramble", "(I)I"⟩ : MethodName)) hown (mvT hZ (hw _ (List.mem_of_getElem? (i := 8) rfl))) (mvT hZ (hw _ (List.mem_of_getElem? (i := 9) rfl))) (mvT hZ (hw _ (List.mem_of_getElem? (i := 6) rfl))) (mvT hZ (hw _ (List.mem_of_getElem? (i := 10) rfl))) (by decide) (backOf (W := 1) (rm2 l Z a0 hw [] (own_t2 x0 x1) h0 n0 Z0) hZ (hw _ (List.mem_of_getElem? (i := 10) rfl)) (hw _ (List.mem_of_getElem? (i := 6) rfl)) (by decide) (by decide)) (g := (mkF m 123 #[.val (.ref a1), .val (.int 0), .val (.int 0), .val (.int (own_t2 x0 x1)), .val (.int (-1))] [(.int (own_t2 x0 x1)), (.int 0)])) rfl (by rw [hml]; rfl) (argsL := [(.int (own_t2 x0 x1))]) (rest := [(.int 0)]) (lenOf pd_28I29I rfl) rfl (by show 2 * 0 + _ ≤ _; exact Nat.le_of_eq rfl) (hb hby d_prog_21_method_2_code_123) (fun _ _ => ⟨rfl, e0, (by decide : 0 + 0 ≤ _), (by decide : 0 + 0 ≤ _)⟩)
  dsimp only [Pt.U, Pt.locs, Pt.cells, Pt.slots] at X20 l20 y20 z20 st20 hQ20
  subst l20 y20 z20
  obtain ⟨rfl, N20q, e20⟩ := hQ20
  have N20 := Fr.app N0 N20q
  obtain ⟨cl21, Ar21, -, S21, M21, -, -⟩ := id V1
  obtain ⟨_, _, ⟨T22, L22, k22, n22⟩, -, X22, ⟨Lc22, hQ22, l22, y22, z22⟩, st22⟩ := Jvm.LawKit.callS X20 hx (y := (⟨"com/example/forkline/forkline/bucketing/MurmurHash3", "finalMix", "(I)I"⟩ : MethodName)) hown (mvT hZ (hw _ (List.mem_of_getElem? (i := 17) rfl))) (mvT hZ (hw _ (List.mem_of_getElem? (i := 18) rfl))) (mvT hZ (hw _ (List.mem_of_getElem? (i := 6) rfl))) (mvT hZ (hw _ (List.mem_of_getElem? (i := 19) rfl))) (by decide) (backOf (W := 0) (rm3 l Z a0 hw [] (((0 : Int32) ^^^ (own_scr (own_t2 x0 x1))) ^^^ (2 : Int32)) h0 n0 Z0) hZ (hw _ (List.mem_of_getElem? (i := 19) rfl)) (hw _ (List.mem_of_getElem? (i := 6) rfl)) (by decide) (by decide)) (g := (mkF m 134 #[.val (.ref a1), .val (.int (((0 : Int32) ^^^ (own_scr (own_t2 x0 x1))) ^^^ (2 : Int32))), .val (.int 0), .val (.int (own_t2 x0 x1)), .val (.int (-1))] [(.int (((0 : Int32) ^^^ (own_scr (own_t2 x0 x1))) ^^^ (2 : Int32)))])) rfl (by rw [hml]; rfl) (argsL := [(.int (((0 : Int32) ^^^ (own_scr (own_t2 x0 x1))) ^^^ (2 : Int32)))]) (rest := []) (lenOf pd_28I29I rfl) rfl (by show 2 * 0 + _ ≤ _; exact Nat.le_of_eq rfl) (hb hby d_prog_21_method_2_code_134) (fun _ _ => ⟨rfl, e20, (by decide : 0 + 0 ≤ _), (by decide : 0 + 0 ≤ _)⟩)
  dsimp only [Pt.U, Pt.locs, Pt.cells, Pt.slots] at X22 l22 y22 z22 st22 hQ22
  subst l22 y22 z22
  obtain ⟨rfl, N22q, e22⟩ := hQ22
  have N22 := Fr.app N20 N22q
  obtain ⟨fs, hr, hrun, hended, hW, hsame⟩ := X22.leave (v := some (.int (own_fin (((0 : Int32) ^^^ (own_scr (own_t2 x0 x1))) ^^^ (2 : Int32))))) (fun h => by rw [Bd.returns] at h; cases h)
  refine ⟨_, _, pre0 _ ?_, hrun, hended, _, _, rfl, ?_, ⟨_, rfl⟩, hW, hsame.mono (by decide) (by decide)⟩
  · refine own_iconst X0.here hx (0 : Int32) (hb hby d_prog_21_method_2_code_0) rfl ?_
    refine own_istoreN X0.here hx (hb hby d_prog_21_method_2_code_1) (l' := #[.val (.ref a1), .val (.int 0), .unset, .unset, .unset]) rfl ?_
    refine own_aloadN X0.here hx (hb hby d_prog_21_method_2_code_2) rfl rfl ?_
    refine X0.arraylength hx (by rw [e0]; exact Ar15.1) (State.isArrayOf_alike hZ.alike Ar15.2.1) (g := (mkF m 3 #[.val (.ref a1), .val (.int 0), .unset, .unset, .unset] [(.ref a1)])) rfl rfl (hb hby d_prog_21_method_2_code_3) _ ?_
    rw [len_of S15 M15]
    show Steps p.tables e below (s₁.setTop (mkF m 4 #[.val (.ref a1), .val (.int 0), .unset, .unset, .unset] [(.int 2)])) _
    refine own_aloadN X0.here hx (hb hby d_prog_21_method_2_code_4) rfl rfl ?_
    refine X0.arraylength hx (by rw [e0]; exact Ar16.1) (State.isArrayOf_alike hZ.alike Ar16.2.1) (g := (mkF m 5 #[.val (.ref a1), .val (.int 0), .unset, .unset, .unset] [(.ref a1), (.int 2)])) rfl rfl (hb hby d_prog_21_method_2_code_5) _ ?_
    rw [len_of S16 M16]
    show Steps p.tables e below (s₁.setTop (mkF m 6 #[.val (.ref a1), .val (.int 0), .unset, .unset, .unset] [(.int 2), (.int 2)])) _
    refine own_iconst X0.here hx (4 : Int32) (hb hby d_prog_21_method_2_code_6) rfl ?_
    refine own_irem X0.here hx (hb hby d_prog_21_method_2_code_7) (by decide) ?_
    show Steps p.tables e below (s₁.setTop (mkF m 8 #[.val (.ref a1), .val (.int 0), .unset, .unset, .unset] [(.int 2), (.int 2)])) _
    refine own_isub X0.here hx (hb hby d_prog_21_method_2_code_8) ?_
    show Steps p.tables e below (s₁.setTop (mkF m 9 #[.val (.ref a1), .val (.int 0), .unset, .unset, .unset] [(.int 0)])) _
    refine own_istoreN X0.here hx (hb hby d_prog_21_method_2_code_9) (l' := #[.val (.ref a1), .val (.int 0), .val (.int 0), .unset, .unset]) rfl ?_
    refine own_iconst X0.here hx (0 : Int32) (hb hby d_prog_21_method_2_code_10) rfl ?_
    refine own_istoreN X0.here hx (hb hby d_prog_21_method_2_code_11) (l' := #[.val (.ref a1), .val (.int 0), .val (.int 0), .val (.int 0), .unset]) rfl ?_
    refine own_iloadN X0.here hx (hb hby d_prog_21_method_2_code_12) rfl ?_
    refine own_iloadN X0.here hx (hb hby d_prog_21_method_2_code_13) rfl ?_
    refine own_icmpYes X0.here hx 14 87 rfl (hb hby d_prog_21_method_2_code_14) (flt (by decide : ¬ ((0 : Int32) < (0 : Int32)))).2.1 (by decide) (by decide) ?_
    refine own_iconst X0.here hx (0 : Int32) (hb hby d_prog_21_method_2_code_87) rfl ?_
    refine own_istoreN X0.here hx (hb hby d_prog_21_method_2_code_88) (l' := #[.val (.ref a1), .val (.int 0), .val (.int 0), .val (.int 0), .unset]) rfl ?_
    refine own_aloadN X0.here hx (hb hby d_prog_21_method_2_code_89) rfl rfl ?_
    refine X0.arraylength hx (by rw [e0]; exact Ar17.1) (State.isArrayOf_alike hZ.alike Ar17.2.1) (g := (mkF m 90 #[.val (.ref a1), .val (.int 0), .val (.int 0), .val (.int 0), .unset] [(.ref a1)])) rfl rfl (hb hby d_prog_21_method_2_code_90) _ ?_
    rw [len_of S17 M17]
    show Steps p.tables e below (s₁.setTop (mkF m 91 #[.val (.ref a1), .val (.int 0), .val (.int 0), .val (.int 0), .unset] [(.int 2)])) _
    refine own_iconst X0.here hx (1 : Int32) (hb hby d_prog_21_method_2_code_91) rfl ?_
    refine own_isub X0.here hx (hb hby d_prog_21_method_2_code_92) ?_
    show Steps p.tables e below (s₁.setTop (mkF m 93 #[.val (.ref a1), .val (.int 0), .val (.int 0), .val (.int 0), .unset] [(.int 1)])) _
    refine own_istore X0.here hx (hb hby d_prog_21_method_2_code_93) (l' := #[.val (.ref a1), .val (.int 0), .val (.int 0), .val (.int 0), .val (.int 1)]) rfl ?_
    refine own_iload X0.here hx (hb hby d_prog_21_method_2_code_95) rfl ?_
    refine own_iloadN X0.here hx (hb hby d_prog_21_method_2_code_97) rfl ?_
    refine own_icmpNo X0.here hx (hb hby d_prog_21_method_2_code_98) (flt (by decide : ¬ ((1 : Int32) < (0 : Int32)))).1 ?_
    refine own_iloadN X0.here hx (hb hby d_prog_21_method_2_code_101) rfl ?_
    refine own_bipush X0.here hx (8 : Int32) (hb hby d_prog_21_method_2_code_102) rfl ?_
    refine own_ishl X0.here hx (hb hby d_prog_21_method_2_code_104) ?_
    show Steps p.tables e below (s₁.setTop (mkF m 105 #[.val (.ref a1), .val (.int 0), .val (.int 0), .val (.int 0), .val (.int 1)] [(.int 0)])) _
    refine own_aloadN X0.here hx (hb hby d_prog_21_method_2_code_105) rfl rfl ?_
    refine own_iload X0.here hx (hb hby d_prog_21_method_2_code_106) rfl ?_
    refine X0.baloadBytes hx (j := (1 : Int32)) (v := (.int x1)) (by rw [e0]; exact Ar18.1) (State.isArrayOf_alike hZ.alike Ar18.2.1) Ar18.2.2 hin18 hat18 (g := (mkF m 108 #[.val (.ref a1), .val (.int 0), .val (.int 0), .val (.int 0), .val (.int 1)] [(.int 1), (.ref a1), (.int 0)])) rfl rfl (hb hby d_prog_21_method_2_code_108) _ ?_
    show Steps p.tables e below (s₁.setTop (mkF m 109 #[.val (.ref a1), .val (.int 0), .val (.int 0), .val (.int 0), .val (.int 1)] [(.int x1), (.int 0)])) _
    refine own_sipush X0.here hx (255 : Int32) (hb hby d_prog_21_method_2_code_109) rfl ?_
    refine own_iand X0.here hx (hb hby d_prog_21_method_2_code_112) ?_
    refine own_ior X0.here hx (hb hby d_prog_21_method_2_code_113) ?_
    show Steps p.tables e below (s₁.setTop (mkF m 114 #[.val (.ref a1), .val (.int 0), .val (.int 0), .val (.int 0), .val (.int 1)] [(.int (own_t1 x1))])) _
    refine own_istoreN X0.here hx (hb hby d_prog_21_method_2_code_114) (l' := #[.val (.ref a1), .val (.int 0), .val (.int 0), .val (.int (own_t1 x1)), .val (.int 1)]) rfl ?_
    refine own_iinc X0.here hx (-1 : Int32) (hb hby d_prog_21_method_2_code_115) rfl rfl (l' := #[.val (.ref a1), .val (.int 0), .val (.int 0), .val (.int (own_t1 x1)), .val (.int 0)]) rfl ?_
    refine own_goto X0.here hx 118 95 rfl (hb hby d_prog_21_method_2_code_118) (by decide) (by decide) ?_
    refine own_iload X0.here hx (hb hby d_prog_21_method_2_code_95) rfl ?_
    refine own_iloadN X0.here hx (hb hby d_prog_21_method_2_code_97) rfl ?_
    refine own_icmpNo X0.here hx (hb hby d_prog_21_method_2_code_98) (flt (by decide : ¬ ((0 : Int32) < (0 : Int32)))).1 ?_
    refine own_iloadN X0.here hx (hb hby d_prog_21_method_2_code_101) rfl ?_
    refine own_bipush X0.here hx (8 : Int32) (hb hby d_prog_21_method_2_code_102) rfl ?_
    refine own_ishl X0.here hx (hb hby d_prog_21_method_2_code_104) ?_
    refine own_aloadN X0.here hx (hb hby d_prog_21_method_2_code_105) rfl rfl ?_
    refine own_iload X0.here hx (hb hby d_prog_21_method_2_code_106) rfl ?_
    refine X0.baloadBytes hx (j := (0 : Int32)) (v := (.int x0)) (by rw [e0]; exact Ar19.1) (State.isArrayOf_alike hZ.alike Ar19.2.1) Ar19.2.2 hin19 hat19 (g := (mkF m 108 #[.val (.ref a1), .val (.int 0), .val (.int 0), .val (.int (own_t1 x1)), .val (.int 0)] [(.int 0), (.ref a1), (.int ((own_t1 x1) <<< ((8 : Int32) &&& 31)))])) rfl rfl (hb hby d_prog_21_method_2_code_108) _ ?_
    show Steps p.tables e below (s₁.setTop (mkF m 109 #[.val (.ref a1), .val (.int 0), .val (.int 0), .val (.int (own_t1 x1)), .val (.int 0)] [(.int x0), (.int ((own_t1 x1) <<< ((8 : Int32) &&& 31)))])) _
    refine own_sipush X0.here hx (255 : Int32) (hb hby d_prog_21_method_2_code_109) rfl ?_
    refine own_iand X0.here hx (hb hby d_prog_21_method_2_code_112) ?_
    refine own_ior X0.here hx (hb hby d_prog_21_method_2_code_113) ?_
    show Steps p.tables e below (s₁.setTop (mkF m 114 #[.val (.ref a1), .val (.int 0), .val (.int 0), .val (.int (own_t1 x1)), .val (.int 0)] [(.int (own_t2 x0 x1))])) _
    refine own_istoreN X0.here hx (hb hby d_prog_21_method_2_code_114) (l' := #[.val (.ref a1), .val (.int 0), .val (.int 0), .val (.int (own_t2 x0 x1)), .val (.int 0)]) rfl ?_
    refine own_iinc X0.here hx (-1 : Int32) (hb hby d_prog_21_method_2_code_115) rfl rfl (l' := #[.val (.ref a1), .val (.int 0), .val (.int 0), .val (.int (own_t2 x0 x1)), .val (.int (-1))]) rfl ?_
    refine own_goto X0.here hx 118 95 rfl (hb hby d_prog_21_method_2_code_118) (by decide) (by decide) ?_
    refine own_iload X0.here hx (hb hby d_prog_21_method_2_code_95) rfl ?_
    refine own_iloadN X0.here hx (hb hby d_prog_21_method_2_code_97) rfl ?_
    refine own_icmpYes X0.here hx 98 121 rfl (hb hby d_prog_21_method_2_code_98) (tlt (by decide : (-1 : Int32) < (0 : Int32))).1 (by decide) (by decide) ?_
    refine own_iloadN X0.here hx (hb hby d_prog_21_method_2_code_121) rfl ?_
    refine own_iloadN X0.here hx (hb hby d_prog_21_method_2_code_122) rfl ?_
    refine st20 _ ?_
    show Steps p.tables e below (T20.setTop (mkF m 126 #[.val (.ref a1), .val (.int 0), .val (.int 0), .val (.int (own_t2 x0 x1)), .val (.int (-1))] [(.int (own_scr (own_t2 x0 x1))), (.int 0)])) _
    refine own_ixor X20.here hx (hb hby d_prog_21_method_2_code_126) ?_
    refine own_istoreN X20.here hx (hb hby d_prog_21_method_2_code_127) (l' := #[.val (.ref a1), .val (.int ((0 : Int32) ^^^ (own_scr (own_t2 x0 x1)))), .val (.int 0), .val (.int (own_t2 x0 x1)), .val (.int (-1))]) rfl ?_
    refine own_iloadN X20.here hx (hb hby d_prog_21_method_2_code_128) rfl ?_
    refine own_aloadN X20.here hx (hb hby d_prog_21_method_2_code_129) rfl rfl ?_
    refine X20.arraylength hx (by rw [e20]; exact Ar21.1) (State.isArrayOf_alike hZ.alike Ar21.2.1) (g := (mkF m 130 #[.val (.ref a1), .val (.int ((0 : Int32) ^^^ (own_scr (own_t2 x0 x1)))), .val (.int 0), .val (.int (own_t2 x0 x1)), .val (.int (-1))] [(.ref a1), (.int ((0 : Int32) ^^^ (own_scr (own_t2 x0 x1))))])) rfl rfl (hb hby d_prog_21_method_2_code_130) _ ?_
    rw [len_of S21 M21]
    show Steps p.tables e below (T20.setTop (mkF m 131 #[.val (.ref a1), .val (.int ((0 : Int32) ^^^ (own_scr (own_t2 x0 x1)))), .val (.int 0), .val (.int (own_t2 x0 x1)), .val (.int (-1))] [(.int 2), (.int ((0 : Int32) ^^^ (own_scr (own_t2 x0 x1))))])) _
    refine own_ixor X20.here hx (hb hby d_prog_21_method_2_code_131) ?_
    refine own_istoreN X20.here hx (hb hby d_prog_21_method_2_code_132) (l' := #[.val (.ref a1), .val (.int (((0 : Int32) ^^^ (own_scr (own_t2 x0 x1))) ^^^ (2 : Int32))), .val (.int 0), .val (.int (own_t2 x0 x1)), .val (.int (-1))]) rfl ?_
    refine own_iloadN X20.here hx (hb hby d_prog_21_method_2_code_133) rfl ?_
    refine st22 _ ?_
    show Steps p.tables e below (T22.setTop (mkF m 137 #[.val (.ref a1), .val (.int (((0 : Int32) ^^^ (own_scr (own_t2 x0 x1))) ^^^ (2 : Int32))), .val (.int 0), .val (.int (own_t2 x0 x1)), .val (.int (-1))] [(.int (own_fin (((0 : Int32) ^^^ (own_scr (own_t2 x0 x1))) ^^^ (2 : Int32))))])) _
    exact retI X22 hx Bd.returns (hb hby d_prog_21_method_2_code_137) hr
  · show QH_2 Z a1 k1 x0 x1 h0 n0 _ T22.heap _
    rw [e22]
    exact ⟨rfl, N22, rfl⟩
theorem ef_rmH_3 (m : MethodId) (x0 : Addr) : entryFrame m #[(.ref x0)] 5 = mkF m 0 #[.val (.ref x0), .unset, .unset, .unset, .unset] [] := by first | (simp [entryFrame, mkF, argsToLocals, Value.category]; done) | rfl
def QH_3 (Z : State) (a1 : Addr) (k1 : ClassId) (x0 : Int32) (x1 : Int32) (x2 : Int32) (h0 : Heap) (n0 : Nat) (v : Option Value) (h : Heap) (L : List Loc) : Prop := v = some (.int (own_fin (((0 : Int32) ^^^ (own_scr (own_t3 x0 x1 x2))) ^^^ (3 : Int32)))) ∧ Fr n0 L ∧ h = h0
set_option maxRecDepth 65536 in
set_option maxHeartbeats 40000000 in
theorem rmH_3 (l : Launch) (Z : State) (a0 : Array Value) (hw : ∀ d ∈ tables_1, d.before a0 Z = true) (ws : List Jvm.Cond) (a1 : Addr) (k1 : ClassId) (x0 : Int32) (x1 : Int32) (x2 : Int32) (h0 : Heap) (n0 : Nat) (Z0 : n0 ≤ h0.size) (V1 : Arv Z h0 a1 k1 .byte (3 : Int32) [(.int x0), (.int x1), (.int x2)] (.int (0 : Int32))) :
    MetFree l (⟨"com/example/forkline/forkline/bucketing/MurmurHash3", "hash32", "([B)I"⟩ : MethodName) (head1 (Jvm.Cond.code (⟨"com/example/forkline/forkline/bucketing/MurmurHash3", "hash32", "([B)I"⟩ : MethodName) prog_21_method_2_code 5 (some .int) :: ws) ({ frames := 2, cells := 0, slots := 0, locals := 26 } : Room)) (fun a U => a = #[(.ref a1)] ∧ Z.Warmed39 U.vm ∧ U.heap = h0) (fun _ _ _ _ _ => True) (fun _ U o U' => ∃ v L, o = .returned v ∧ QH_3 Z a1 k1 x0 x1 x2 h0 n0 v U'.heap L ∧ FrameEnd U o U' L ({ frames := 2, cells := 0, slots := 0, locals := 26 } : Room).cells ({ frames := 2, cells := 0, slots := 0, locals := 26 } : Room).slots) := by
  refine MetFree.of_bodySF (plainFor_of_name pn_com_example_forkline_forkline_bucketing_MurmurHash3) hisR ?_
  intro p e s m args below meth c s₁ Bd hml0 hP hK
  obtain ⟨rfl, hZ, hh⟩ := hP
  have hx := Bd.exec
  have hby := Bd.bytes
  have hml : c.maxLocals = 5 := hml0
  have hown : s.vm.findClass "com/example/forkline/forkline/bucketing/MurmurHash3" = some m.cls := findClass_of_methodNamed Bd.named
  have hnm := (name_of_methodNamed Bd.named Bd.method).1
  have X0 : Stand p l e ({ frames := 2, cells := 0, slots := 0, locals := 26 } : Room) s m #[(.ref a1)] below meth c s₁ [] 0 0 := Stand.of_body Bd
  have e0 : s₁.heap = h0 := by rw [← hh, Bd.state]; rfl
  have N0 := Fr.nil n0
  have pre0 : ∀ tG, Steps p.tables e below (s₁.setTop (mkF m 0 #[.val (.ref a1), .unset, .unset, .unset, .unset] [])) tG → Steps p.tables e below (s₁.setTop (entryFrame m #[(.ref a1)] 5)) tG := fun tG kG => castTop (ef_rmH_3 m a1) kG
  obtain ⟨cl23, Ar23, -, S23, M23, -, -⟩ := id V1
  obtain ⟨cl24, Ar24, -, S24, M24, -, -⟩ := id V1
  obtain ⟨cl25, Ar25, -, S25, M25, -, -⟩ := id V1
  obtain ⟨cl26, Ar26, q26, S26, M26, H26, J26⟩ := id V1
  have hin26 : ¬ ((2 : Int32) < 0 ∨ cl26.slots.size ≤ ((2 : Int32)).toNatClampNeg) := inb_of S26 ⟨by decide, by decide⟩
  have hat26 : cl26.slots[((2 : Int32)).toNatClampNeg]? = some (.int x2) := Has.at H26 hin26 rfl
  obtain ⟨cl27, Ar27, q27, S27, M27, H27, J27⟩ := id V1
  have hin27 : ¬ ((1 : Int32) < 0 ∨ cl27.slots.size ≤ ((1 : Int32)).toNatClampNeg) := inb_of S27 ⟨by decide, by decide⟩
  have hat27 : cl27.slots[((1 : Int32)).toNatClampNeg]? = some (.int x1) := Has.at H27 hin27 rfl
  obtain ⟨cl28, Ar28, q28, S28, M28, H28, J28⟩ := id V1
  have hin28 : ¬ ((0 : Int32) < 0 ∨ cl28.slots.size ≤ ((0 : Int32)).toNatClampNeg) := inb_of S28 ⟨by decide, by decide⟩
  have hat28 : cl28.slots[((0 : Int32)).toNatClampNeg]? = some (.int x0) := Has.at H28 hin28 rfl
  obtain ⟨_, _, ⟨T29, L29, k29, n29⟩, -, X29, ⟨Lc29, hQ29, l29, y29, z29⟩, st29⟩ := Jvm.LawKit.callS X0 hx (y := (⟨"com/example/forkline/forkline/bucketing/MurmurHash3", "scramble", "(I)I"⟩ : MethodName)) hown (mvT hZ (hw _ (List.mem_of_getElem? (i := 8) rfl))) (mvT hZ (hw _ (List.mem_of_getElem? (i := 9) rfl))) (mvT hZ (hw _ (List.mem_of_getElem? (i := 6) rfl))) (mvT hZ (hw _ (List.mem_of_getElem? (i := 10) rfl))) (by decide) (backOf (W := 1) (rm2 l Z a0 hw [] (own_t3 x0 x1 x2) h0 n0 Z0) hZ (hw _ (List.mem_of_getElem? (i := 10) rfl)) (hw _ (List.mem_of_getElem? (i := 6) rfl)) (by decide) (by decide)) (g := (mkF m 123 #[.val (.ref a1), .val (.int 0), .val (.int 0), .val (.int (own_t3 x0 x1 x2)), .val (.int (-1))] [(.int (own_t3 x0 x1 x2)), (.int 0)])) rfl (by rw [hml]; rfl) (argsL := [(.int (own_t3 x0 x1 x2))]) (rest := [(.int 0)]) (lenOf pd_28I29I rfl) rfl (by show 2 * 0 + _ ≤ _; exact Nat.le_of_eq rfl) (hb hby d_prog_21_method_2_code_123) (fun _ _ => ⟨rfl, e0, (by decide : 0 + 0 ≤ _), (by decide : 0 + 0 ≤ _)⟩)
  dsimp only [Pt.U, Pt.locs, Pt.cells, Pt.slots] at X29 l29 y29 z29 st29 hQ29
  subst l29 y29 z29
  obtain ⟨rfl, N29q, e29⟩ := hQ29
  have N29 := Fr.app N0 N29q
  obtain ⟨cl30, Ar30, -, S30, M30, -, -⟩ := id V1
  obtain ⟨_, _, ⟨T31, L31, k31, n31⟩, -, X31, ⟨Lc31, hQ31, l31, y31, z31⟩, st31⟩ := Jvm.LawKit.callS X29 hx (y := (⟨"com/example/forkline/forkline/bucketing/MurmurHash3", "finalMix", "(I)I"⟩ : MethodName)) hown (mvT hZ (hw _ (List.mem_of_getElem? (i := 17) rfl))) (mvT hZ (hw _ (List.mem_of_getElem? (i := 18) rfl))) (mvT hZ (hw _ (List.mem_of_getElem? (i := 6) rfl))) (mvT hZ (hw _ (List.mem_of_getElem? (i := 19) rfl))) (by decide) (backOf (W := 0) (rm3 l Z a0 hw [] (((0 : Int32) ^^^ (own_scr (own_t3 x0 x1 x2))) ^^^ (3 : Int32)) h0 n0 Z0) hZ (hw _ (List.mem_of_getElem? (i := 19) rfl)) (hw _ (List.mem_of_getElem? (i := 6) rfl)) (by decide) (by decide)) (g := (mkF m 134 #[.val (.ref a1), .val (.int (((0 : Int32) ^^^ (own_scr (own_t3 x0 x1 x2))) ^^^ (3 : Int32))), .val (.int 0), .val (.int (own_t3 x0 x1 x2)), .val (.int (-1))] [(.int (((0 : Int32) ^^^ (own_scr (own_t3 x0 x1 x2))) ^^^ (3 : Int32)))])) rfl (by rw [hml]; rfl) (argsL := [(.int (((0 : Int32) ^^^ (own_scr (own_t3 x0 x1 x2))) ^^^ (3 : Int32)))]) (rest := []) (lenOf pd_28I29I rfl) rfl (by show 2 * 0 + _ ≤ _; exact Nat.le_of_eq rfl) (hb hby d_prog_21_method_2_code_134) (fun _ _ => ⟨rfl, e29, (by decide : 0 + 0 ≤ _), (by decide : 0 + 0 ≤ _)⟩)
  dsimp only [Pt.U, Pt.locs, Pt.cells, Pt.slots] at X31 l31 y31 z31 st31 hQ31
  subst l31 y31 z31
  obtain ⟨rfl, N31q, e31⟩ := hQ31
  have N31 := Fr.app N29 N31q
  obtain ⟨fs, hr, hrun, hended, hW, hsame⟩ := X31.leave (v := some (.int (own_fin (((0 : Int32) ^^^ (own_scr (own_t3 x0 x1 x2))) ^^^ (3 : Int32))))) (fun h => by rw [Bd.returns] at h; cases h)
  refine ⟨_, _, pre0 _ ?_, hrun, hended, _, _, rfl, ?_, ⟨_, rfl⟩, hW, hsame.mono (by decide) (by decide)⟩
  · refine own_iconst X0.here hx (0 : Int32) (hb hby d_prog_21_method_2_code_0) rfl ?_
    refine own_istoreN X0.here hx (hb hby d_prog_21_method_2_code_1) (l' := #[.val (.ref a1), .val (.int 0), .unset, .unset, .unset]) rfl ?_
    refine own_aloadN X0.here hx (hb hby d_prog_21_method_2_code_2) rfl rfl ?_
    refine X0.arraylength hx (by rw [e0]; exact Ar23.1) (State.isArrayOf_alike hZ.alike Ar23.2.1) (g := (mkF m 3 #[.val (.ref a1), .val (.int 0), .unset, .unset, .unset] [(.ref a1)])) rfl rfl (hb hby d_prog_21_method_2_code_3) _ ?_
    rw [len_of S23 M23]
    show Steps p.tables e below (s₁.setTop (mkF m 4 #[.val (.ref a1), .val (.int 0), .unset, .unset, .unset] [(.int 3)])) _
    refine own_aloadN X0.here hx (hb hby d_prog_21_method_2_code_4) rfl rfl ?_
    refine X0.arraylength hx (by rw [e0]; exact Ar24.1) (State.isArrayOf_alike hZ.alike Ar24.2.1) (g := (mkF m 5 #[.val (.ref a1), .val (.int 0), .unset, .unset, .unset] [(.ref a1), (.int 3)])) rfl rfl (hb hby d_prog_21_method_2_code_5) _ ?_
    rw [len_of S24 M24]
    show Steps p.tables e below (s₁.setTop (mkF m 6 #[.val (.ref a1), .val (.int 0), .unset, .unset, .unset] [(.int 3), (.int 3)])) _
    refine own_iconst X0.here hx (4 : Int32) (hb hby d_prog_21_method_2_code_6) rfl ?_
    refine own_irem X0.here hx (hb hby d_prog_21_method_2_code_7) (by decide) ?_
    show Steps p.tables e below (s₁.setTop (mkF m 8 #[.val (.ref a1), .val (.int 0), .unset, .unset, .unset] [(.int 3), (.int 3)])) _
    refine own_isub X0.here hx (hb hby d_prog_21_method_2_code_8) ?_
    show Steps p.tables e below (s₁.setTop (mkF m 9 #[.val (.ref a1), .val (.int 0), .unset, .unset, .unset] [(.int 0)])) _
    refine own_istoreN X0.here hx (hb hby d_prog_21_method_2_code_9) (l' := #[.val (.ref a1), .val (.int 0), .val (.int 0), .unset, .unset]) rfl ?_
    refine own_iconst X0.here hx (0 : Int32) (hb hby d_prog_21_method_2_code_10) rfl ?_
    refine own_istoreN X0.here hx (hb hby d_prog_21_method_2_code_11) (l' := #[.val (.ref a1), .val (.int 0), .val (.int 0), .val (.int 0), .unset]) rfl ?_
    refine own_iloadN X0.here hx (hb hby d_prog_21_method_2_code_12) rfl ?_
    refine own_iloadN X0.here hx (hb hby d_prog_21_method_2_code_13) rfl ?_
    refine own_icmpYes X0.here hx 14 87 rfl (hb hby d_prog_21_method_2_code_14) (flt (by decide : ¬ ((0 : Int32) < (0 : Int32)))).2.1 (by decide) (by decide) ?_
    refine own_iconst X0.here hx (0 : Int32) (hb hby d_prog_21_method_2_code_87) rfl ?_
    refine own_istoreN X0.here hx (hb hby d_prog_21_method_2_code_88) (l' := #[.val (.ref a1), .val (.int 0), .val (.int 0), .val (.int 0), .unset]) rfl ?_
    refine own_aloadN X0.here hx (hb hby d_prog_21_method_2_code_89) rfl rfl ?_
    refine X0.arraylength hx (by rw [e0]; exact Ar25.1) (State.isArrayOf_alike hZ.alike Ar25.2.1) (g := (mkF m 90 #[.val (.ref a1), .val (.int 0), .val (.int 0), .val (.int 0), .unset] [(.ref a1)])) rfl rfl (hb hby d_prog_21_method_2_code_90) _ ?_
    rw [len_of S25 M25]
    show Steps p.tables e below (s₁.setTop (mkF m 91 #[.val (.ref a1), .val (.int 0), .val (.int 0), .val (.int 0), .unset] [(.int 3)])) _
    refine own_iconst X0.here hx (1 : Int32) (hb hby d_prog_21_method_2_code_91) rfl ?_
    refine own_isub X0.here hx (hb hby d_prog_21_method_2_code_92) ?_
    show Steps p.tables e below (s₁.setTop (mkF m 93 #[.val (.ref a1), .val (.int 0), .val (.int 0), .val (.int 0), .unset] [(.int 2)])) _
    refine own_istore X0.here hx (hb hby d_prog_21_method_2_code_93) (l' := #[.val (.ref a1), .val (.int 0), .val (.int 0), .val (.int 0), .val (.int 2)]) rfl ?_
    refine own_iload X0.here hx (hb hby d_prog_21_method_2_code_95) rfl ?_
    refine own_iloadN X0.here hx (hb hby d_prog_21_method_2_code_97) rfl ?_
    refine own_icmpNo X0.here hx (hb hby d_prog_21_method_2_code_98) (flt (by decide : ¬ ((2 : Int32) < (0 : Int32)))).1 ?_
    refine own_iloadN X0.here hx (hb hby d_prog_21_method_2_code_101) rfl ?_
    refine own_bipush X0.here hx (8 : Int32) (hb hby d_prog_21_method_2_code_102) rfl ?_
    refine own_ishl X0.here hx (hb hby d_prog_21_method_2_code_104) ?_
    show Steps p.tables e below (s₁.setTop (mkF m 105 #[.val (.ref a1), .val (.int 0), .val (.int 0), .val (.int 0), .val (.int 2)] [(.int 0)])) _
    refine own_aloadN X0.here hx (hb hby d_prog_21_method_2_code_105) rfl rfl ?_
    refine own_iload X0.here hx (hb hby d_prog_21_method_2_code_106) rfl ?_
    refine X0.baloadBytes hx (j := (2 : Int32)) (v := (.int x2)) (by rw [e0]; exact Ar26.1) (State.isArrayOf_alike hZ.alike Ar26.2.1) Ar26.2.2 hin26 hat26 (g := (mkF m 108 #[.val (.ref a1), .val (.int 0), .val (.int 0), .val (.int 0), .val (.int 2)] [(.int 2), (.ref a1), (.int 0)])) rfl rfl (hb hby d_prog_21_method_2_code_108) _ ?_
    show Steps p.tables e below (s₁.setTop (mkF m 109 #[.val (.ref a1), .val (.int 0), .val (.int 0), .val (.int 0), .val (.int 2)] [(.int x2), (.int 0)])) _
    refine own_sipush X0.here hx (255 : Int32) (hb hby d_prog_21_method_2_code_109) rfl ?_
    refine own_iand X0.here hx (hb hby d_prog_21_method_2_code_112) ?_
    refine own_ior X0.here hx (hb hby d_prog_21_method_2_code_113) ?_
    show Steps p.tables e below (s₁.setTop (mkF m 114 #[.val (.ref a1), .val (.int 0), .val (.int 0), .val (.int 0), .val (.int 2)] [(.int (own_t1 x2))])) _
    refine own_istoreN X0.here hx (hb hby d_prog_21_method_2_code_114) (l' := #[.val (.ref a1), .val (.int 0), .val (.int 0), .val (.int (own_t1 x2)), .val (.int 2)]) rfl ?_
    refine own_iinc X0.here hx (-1 : Int32) (hb hby d_prog_21_method_2_code_115) rfl rfl (l' := #[.val (.ref a1), .val (.int 0), .val (.int 0), .val (.int (own_t1 x2)), .val (.int 1)]) rfl ?_
    refine own_goto X0.here hx 118 95 rfl (hb hby d_prog_21_method_2_code_118) (by decide) (by decide) ?_
    refine own_iload X0.here hx (hb hby d_prog_21_method_2_code_95) rfl ?_
    refine own_iloadN X0.here hx (hb hby d_prog_21_method_2_code_97) rfl ?_
    refine own_icmpNo X0.here hx (hb hby d_prog_21_method_2_code_98) (flt (by decide : ¬ ((1 : Int32) < (0 : Int32)))).1 ?_
    refine own_iloadN X0.here hx (hb hby d_prog_21_method_2_code_101) rfl ?_
    refine own_bipush X0.here hx (8 : Int32) (hb hby d_prog_21_method_2_code_102) rfl ?_
    refine own_ishl X0.here hx (hb hby d_prog_21_method_2_code_104) ?_
    refine own_aloadN X0.here hx (hb hby d_prog_21_method_2_code_105) rfl rfl ?_
    refine own_iload X0.here hx (hb hby d_prog_21_method_2_code_106) rfl ?_
    refine X0.baloadBytes hx (j := (1 : Int32)) (v := (.int x1)) (by rw [e0]; exact Ar27.1) (State.isArrayOf_alike hZ.alike Ar27.2.1) Ar27.2.2 hin27 hat27 (g := (mkF m 108 #[.val (.ref a1), .val (.int 0), .val (.int 0), .val (.int (own_t1 x2)), .val (.int 1)] [(.int 1), (.ref a1), (.int ((own_t1 x2) <<< ((8 : Int32) &&& 31)))])) rfl rfl (hb hby d_prog_21_method_2_code_108) _ ?_
    show Steps p.tables e below (s₁.setTop (mkF m 109 #[.val (.ref a1), .val (.int 0), .val (.int 0), .val (.int (own_t1 x2)), .val (.int 1)] [(.int x1), (.int ((own_t1 x2) <<< ((8 : Int32) &&& 31)))])) _
    refine own_sipush X0.here hx (255 : Int32) (hb hby d_prog_21_method_2_code_109) rfl ?_
    refine own_iand X0.here hx (hb hby d_prog_21_method_2_code_112) ?_
    refine own_ior X0.here hx (hb hby d_prog_21_method_2_code_113) ?_
    show Steps p.tables e below (s₁.setTop (mkF m 114 #[.val (.ref a1), .val (.int 0), .val (.int 0), .val (.int (own_t1 x2)), .val (.int 1)] [(.int (own_t2 x1 x2))])) _
    refine own_istoreN X0.here hx (hb hby d_prog_21_method_2_code_114) (l' := #[.val (.ref a1), .val (.int 0), .val (.int 0), .val (.int (own_t2 x1 x2)), .val (.int 1)]) rfl ?_
    refine own_iinc X0.here hx (-1 : Int32) (hb hby d_prog_21_method_2_code_115) rfl rfl (l' := #[.val (.ref a1), .val (.int 0), .val (.int 0), .val (.int (own_t2 x1 x2)), .val (.int 0)]) rfl ?_
    refine own_goto X0.here hx 118 95 rfl (hb hby d_prog_21_method_2_code_118) (by decide) (by decide) ?_
    refine own_iload X0.here hx (hb hby d_prog_21_method_2_code_95) rfl ?_
    refine own_iloadN X0.here hx (hb hby d_prog_21_method_2_code_97) rfl ?_
    refine own_icmpNo X0.here hx (hb hby d_prog_21_method_2_code_98) (flt (by decide : ¬ ((0 : Int32) < (0 : Int32)))).1 ?_
    refine own_iloadN X0.here hx (hb hby d_prog_21_method_2_code_101) rfl ?_
    refine own_bipush X0.here hx (8 : Int32) (hb hby d_prog_21_method_2_code_102) rfl ?_
    refine own_ishl X0.here hx (hb hby d_prog_21_method_2_code_104) ?_
    refine own_aloadN X0.here hx (hb hby d_prog_21_method_2_code_105) rfl rfl ?_
    refine own_iload X0.here hx (hb hby d_prog_21_method_2_code_106) rfl ?_
    refine X0.baloadBytes hx (j := (0 : Int32)) (v := (.int x0)) (by rw [e0]; exact Ar28.1) (State.isArrayOf_alike hZ.alike Ar28.2.1) Ar28.2.2 hin28 hat28 (g := (mkF m 108 #[.val (.ref a1), .val (.int 0), .val (.int 0), .val (.int (own_t2 x1 x2)), .val (.int 0)] [(.int 0), (.ref a1), (.int ((own_t2 x1 x2) <<< ((8 : Int32) &&& 31)))])) rfl rfl (hb hby d_prog_21_method_2_code_108) _ ?_
    show Steps p.tables e below (s₁.setTop (mkF m 109 #[.val (.ref a1), .val (.int 0), .val (.int 0), .val (.int (own_t2 x1 x2)), .val (.int 0)] [(.int x0), (.int ((own_t2 x1 x2) <<< ((8 : Int32) &&& 31)))])) _
    refine own_sipush X0.here hx (255 : Int32) (hb hby d_prog_21_method_2_code_109) rfl ?_
    refine own_iand X0.here hx (hb hby d_prog_21_method_2_code_112) ?_
    refine own_ior X0.here hx (hb hby d_prog_21_method_2_code_113) ?_
    show Steps p.tables e below (s₁.setTop (mkF m 114 #[.val (.ref a1), .val (.int 0), .val (.int 0), .val (.int (own_t2 x1 x2)), .val (.int 0)] [(.int (own_t3 x0 x1 x2))])) _
    refine own_istoreN X0.here hx (hb hby d_prog_21_method_2_code_114) (l' := #[.val (.ref a1), .val (.int 0), .val (.int 0), .val (.int (own_t3 x0 x1 x2)), .val (.int 0)]) rfl ?_
    refine own_iinc X0.here hx (-1 : Int32) (hb hby d_prog_21_method_2_code_115) rfl rfl (l' := #[.val (.ref a1), .val (.int 0), .val (.int 0), .val (.int (own_t3 x0 x1 x2)), .val (.int (-1))]) rfl ?_
    refine own_goto X0.here hx 118 95 rfl (hb hby d_prog_21_method_2_code_118) (by decide) (by decide) ?_
    refine own_iload X0.here hx (hb hby d_prog_21_method_2_code_95) rfl ?_
    refine own_iloadN X0.here hx (hb hby d_prog_21_method_2_code_97) rfl ?_
    refine own_icmpYes X0.here hx 98 121 rfl (hb hby d_prog_21_method_2_code_98) (tlt (by decide : (-1 : Int32) < (0 : Int32))).1 (by decide) (by decide) ?_
    refine own_iloadN X0.here hx (hb hby d_prog_21_method_2_code_121) rfl ?_
    refine own_iloadN X0.here hx (hb hby d_prog_21_method_2_code_122) rfl ?_
    refine st29 _ ?_
    show Steps p.tables e below (T29.setTop (mkF m 126 #[.val (.ref a1), .val (.int 0), .val (.int 0), .val (.int (own_t3 x0 x1 x2)), .val (.int (-1))] [(.int (own_scr (own_t3 x0 x1 x2))), (.int 0)])) _
    refine own_ixor X29.here hx (hb hby d_prog_21_method_2_code_126) ?_
    refine own_istoreN X29.here hx (hb hby d_prog_21_method_2_code_127) (l' := #[.val (.ref a1), .val (.int ((0 : Int32) ^^^ (own_scr (own_t3 x0 x1 x2)))), .val (.int 0), .val (.int (own_t3 x0 x1 x2)), .val (.int (-1))]) rfl ?_
    refine own_iloadN X29.here hx (hb hby d_prog_21_method_2_code_128) rfl ?_
    refine own_aloadN X29.here hx (hb hby d_prog_21_method_2_code_129) rfl rfl ?_
    refine X29.arraylength hx (by rw [e29]; exact Ar30.1) (State.isArrayOf_alike hZ.alike Ar30.2.1) (g := (mkF m 130 #[.val (.ref a1), .val (.int ((0 : Int32) ^^^ (own_scr (own_t3 x0 x1 x2)))), .val (.int 0), .val (.int (own_t3 x0 x1 x2)), .val (.int (-1))] [(.ref a1), (.int ((0 : Int32) ^^^ (own_scr (own_t3 x0 x1 x2))))])) rfl rfl (hb hby d_prog_21_method_2_code_130) _ ?_
    rw [len_of S30 M30]
    show Steps p.tables e below (T29.setTop (mkF m 131 #[.val (.ref a1), .val (.int ((0 : Int32) ^^^ (own_scr (own_t3 x0 x1 x2)))), .val (.int 0), .val (.int (own_t3 x0 x1 x2)), .val (.int (-1))] [(.int 3), (.int ((0 : Int32) ^^^ (own_scr (own_t3 x0 x1 x2))))])) _
    refine own_ixor X29.here hx (hb hby d_prog_21_method_2_code_131) ?_
    refine own_istoreN X29.here hx (hb hby d_prog_21_method_2_code_132) (l' := #[.val (.ref a1), .val (.int (((0 : Int32) ^^^ (own_scr (own_t3 x0 x1 x2))) ^^^ (3 : Int32))), .val (.int 0), .val (.int (own_t3 x0 x1 x2)), .val (.int (-1))]) rfl ?_
    refine own_iloadN X29.here hx (hb hby d_prog_21_method_2_code_133) rfl ?_
    refine st31 _ ?_
    show Steps p.tables e below (T31.setTop (mkF m 137 #[.val (.ref a1), .val (.int (((0 : Int32) ^^^ (own_scr (own_t3 x0 x1 x2))) ^^^ (3 : Int32))), .val (.int 0), .val (.int (own_t3 x0 x1 x2)), .val (.int (-1))] [(.int (own_fin (((0 : Int32) ^^^ (own_scr (own_t3 x0 x1 x2))) ^^^ (3 : Int32))))])) _
    exact retI X31 hx Bd.returns (hb hby d_prog_21_method_2_code_137) hr
  · show QH_3 Z a1 k1 x0 x1 x2 h0 n0 _ T31.heap _
    rw [e31]
    exact ⟨rfl, N31, rfl⟩
theorem ef_rmH_4 (m : MethodId) (x0 : Addr) : entryFrame m #[(.ref x0)] 5 = mkF m 0 #[.val (.ref x0), .unset, .unset, .unset, .unset] [] := by first | (simp [entryFrame, mkF, argsToLocals, Value.category]; done) | rfl
def QH_4 (Z : State) (a1 : Addr) (k1 : ClassId) (x0 : Int32) (x1 : Int32) (x2 : Int32) (x3 : Int32) (h0 : Heap) (n0 : Nat) (v : Option Value) (h : Heap) (L : List Loc) : Prop := v = some (.int (own_fin (((own_mb (0 : Int32) (own_blk x0 x1 x2 x3)) ^^^ (own_scr (0 : Int32))) ^^^ (4 : Int32)))) ∧ Fr n0 L ∧ h = h0
theorem d_prog_21_method_2_code_17 : decode prog_21_method_2_code 17 = .ok (.aload_n 0, 1) := by decide +kernel
theorem d_prog_21_method_2_code_18 : decode prog_21_method_2_code 18 = .ok (.iload_n 3, 1) := by decide +kernel
theorem d_prog_21_method_2_code_19 : decode prog_21_method_2_code 19 = .ok (.baload, 1) := by decide +kernel
theorem d_prog_21_method_2_code_20 : decode prog_21_method_2_code 20 = .ok (.sipush 255, 3) := by decide +kernel
theorem d_prog_21_method_2_code_23 : decode prog_21_method_2_code 23 = .ok (.iand, 1) := by decide +kernel
theorem d_prog_21_method_2_code_24 : decode prog_21_method_2_code 24 = .ok (.aload_n 0, 1) := by decide +kernel
theorem d_prog_21_method_2_code_25 : decode prog_21_method_2_code 25 = .ok (.iload_n 3, 1) := by decide +kernel
theorem d_prog_21_method_2_code_26 : decode prog_21_method_2_code 26 = .ok (.iconst 1, 1) := by decide +kernel
theorem d_prog_21_method_2_code_27 : decode prog_21_method_2_code 27 = .ok (.iadd, 1) := by decide +kernel
theorem d_prog_21_method_2_code_28 : decode prog_21_method_2_code 28 = .ok (.baload, 1) := by decide +kernel
theorem d_prog_21_method_2_code_29 : decode prog_21_method_2_code 29 = .ok (.sipush 255, 3) := by decide +kernel
theorem d_prog_21_method_2_code_32 : decode prog_21_method_2_code 32 = .ok (.iand, 1) := by decide +kernel
theorem d_prog_21_method_2_code_33 : decode prog_21_method_2_code 33 = .ok (.bipush 8, 2) := by decide +kernel
theorem d_prog_21_method_2_code_35 : decode prog_21_method_2_code 35 = .ok (.ishl, 1) := by decide +kernel
theorem d_prog_21_method_2_code_36 : decode prog_21_method_2_code 36 = .ok (.ior, 1) := by decide +kernel
theorem d_prog_21_method_2_code_37 : decode prog_21_method_2_code 37 = .ok (.aload_n 0, 1) := by decide +kernel
theorem d_prog_21_method_2_code_38 : decode prog_21_method_2_code 38 = .ok (.iload_n 3, 1) := by decide +kernel
theorem d_prog_21_method_2_code_39 : decode prog_21_method_2_code 39 = .ok (.iconst 2, 1) := by decide +kernel
theorem d_prog_21_method_2_code_40 : decode prog_21_method_2_code 40 = .ok (.iadd, 1) := by decide +kernel
theorem d_prog_21_method_2_code_41 : decode prog_21_method_2_code 41 = .ok (.baload, 1) := by decide +kernel
theorem d_prog_21_method_2_code_42 : decode prog_21_method_2_code 42 = .ok (.sipush 255, 3) := by decide +kernel
theorem d_prog_21_method_2_code_45 : decode prog_21_method_2_code 45 = .ok (.iand, 1) := by decide +kernel
theorem d_prog_21_method_2_code_46 : decode prog_21_method_2_code 46 = .ok (.bipush 16, 2) := by decide +kernel
theorem d_prog_21_method_2_code_48 : decode prog_21_method_2_code 48 = .ok (.ishl, 1) := by decide +kernel
theorem d_prog_21_method_2_code_49 : decode prog_21_method_2_code 49 = .ok (.ior, 1) := by decide +kernel
theorem d_prog_21_method_2_code_50 : decode prog_21_method_2_code 50 = .ok (.aload_n 0, 1) := by decide +kernel
theorem d_prog_21_method_2_code_51 : decode prog_21_method_2_code 51 = .ok (.iload_n 3, 1) := by decide +kernel
theorem d_prog_21_method_2_code_52 : decode prog_21_method_2_code 52 = .ok (.iconst 3, 1) := by decide +kernel
theorem d_prog_21_method_2_code_53 : decode prog_21_method_2_code 53 = .ok (.iadd, 1) := by decide +kernel
theorem d_prog_21_method_2_code_54 : decode prog_21_method_2_code 54 = .ok (.baload, 1) := by decide +kernel
theorem d_prog_21_method_2_code_55 : decode prog_21_method_2_code 55 = .ok (.bipush 24, 2) := by decide +kernel
theorem d_prog_21_method_2_code_57 : decode prog_21_method_2_code 57 = .ok (.ishl, 1) := by decide +kernel
theorem d_prog_21_method_2_code_58 : decode prog_21_method_2_code 58 = .ok (.ior, 1) := by decide +kernel
theorem d_prog_21_method_2_code_59 : decode prog_21_method_2_code 59 = .ok (.istore 4, 2) := by decide +kernel
theorem d_prog_21_method_2_code_61 : decode prog_21_method_2_code 61 = .ok (.iload_n 1, 1) := by decide +kernel
theorem d_prog_21_method_2_code_62 : decode prog_21_method_2_code 62 = .ok (.iload 4, 2) := by decide +kernel
theorem d_prog_21_method_2_code_64 : decode prog_21_method_2_code 64 = .ok (.invokestatic 7, 3) := by decide +kernel
theorem d_prog_21_method_2_code_67 : decode prog_21_method_2_code 67 = .ok (.ixor, 1) := by decide +kernel
theorem d_prog_21_method_2_code_68 : decode prog_21_method_2_code 68 = .ok (.istore_n 1, 1) := by decide +kernel
theorem d_prog_21_method_2_code_69 : decode prog_21_method_2_code 69 = .ok (.iload_n 1, 1) := by decide +kernel
theorem d_prog_21_method_2_code_70 : decode prog_21_method_2_code 70 = .ok (.bipush 13, 2) := by decide +kernel
theorem d_prog_21_method_2_code_72 : decode prog_21_method_2_code 72 = .ok (.invokestatic 13, 3) := by decide +kernel
theorem d_prog_21_method_2_code_75 : decode prog_21_method_2_code 75 = .ok (.iconst 5, 1) := by decide +kernel
theorem d_prog_21_method_2_code_76 : decode prog_21_method_2_code 76 = .ok (.imul, 1) := by decide +kernel
theorem d_prog_21_method_2_code_77 : decode prog_21_method_2_code 77 = .ok (.ldc 19, 2) := by decide +kernel
theorem d_prog_21_method_2_code_79 : decode prog_21_method_2_code 79 = .ok (.iadd, 1) := by decide +kernel
theorem d_prog_21_method_2_code_80 : decode prog_21_method_2_code 80 = .ok (.istore_n 1, 1) := by decide +kernel
theorem d_prog_21_method_2_code_81 : decode prog_21_method_2_code 81 = .ok (.iinc 3 4, 3) := by decide +kernel
theorem d_prog_21_method_2_code_84 : decode prog_21_method_2_code 84 = .ok (.goto (-72), 3) := by decide +kernel
set_option maxRecDepth 65536 in
set_option maxHeartbeats 40000000 in
theorem rmH_4 (l : Launch) (Z : State) (a0 : Array Value) (hw : ∀ d ∈ tables_1, d.before a0 Z = true) (ws : List Jvm.Cond) (a1 : Addr) (k1 : ClassId) (x0 : Int32) (x1 : Int32) (x2 : Int32) (x3 : Int32) (h0 : Heap) (n0 : Nat) (Z0 : n0 ≤ h0.size) (V1 : Arv Z h0 a1 k1 .byte (4 : Int32) [(.int x0), (.int x1), (.int x2), (.int x3)] (.int (0 : Int32))) :
    MetFree l (⟨"com/example/forkline/forkline/bucketing/MurmurHash3", "hash32", "([B)I"⟩ : MethodName) (head1 (Jvm.Cond.code (⟨"com/example/forkline/forkline/bucketing/MurmurHash3", "hash32", "([B)I"⟩ : MethodName) prog_21_method_2_code 5 (some .int) :: ws) ({ frames := 2, cells := 0, slots := 0, locals := 26 } : Room)) (fun a U => a = #[(.ref a1)] ∧ Z.Warmed39 U.vm ∧ U.heap = h0) (fun _ _ _ _ _ => True) (fun _ U o U' => ∃ v L, o = .returned v ∧ QH_4 Z a1 k1 x0 x1 x2 x3 h0 n0 v U'.heap L ∧ FrameEnd U o U' L ({ frames := 2, cells := 0, slots := 0, locals := 26 } : Room).cells ({ frames := 2, cells := 0, slots := 0, locals := 26 } : Room).slots) := by
  refine MetFree.of_bodySF (plainFor_of_name pn_com_example_forkline_forkline_bucketing_MurmurHash3) hisR ?_
  intro p e s m args below meth c s₁ Bd hml0 hP hK
  obtain ⟨rfl, hZ, hh⟩ := hP
  have hx := Bd.exec
  have hby := Bd.bytes
  have hml : c.maxLocals = 5 := hml0
  have hown : s.vm.findClass "com/example/forkline/forkline/bucketing/MurmurHash3" = some m.cls := findClass_of_methodNamed Bd.named
  have hnm := (name_of_methodNamed Bd.named Bd.method).1
  have X0 : Stand p l e ({ frames := 2, cells := 0, slots := 0, locals := 26 } : Room) s m #[(.ref a1)] below meth c s₁ [] 0 0 := Stand.of_body Bd
  have e0 : s₁.heap = h0 := by rw [← hh, Bd.state]; rfl
  have N0 := Fr.nil n0
  have pre0 : ∀ tG, Steps p.tables e below (s₁.setTop (mkF m 0 #[.val (.ref a1), .unset, .unset, .unset, .unset] [])) tG → Steps p.tables e below (s₁.setTop (entryFrame m #[(.ref a1)] 5)) tG := fun tG kG => castTop (ef_rmH_4 m a1) kG
  obtain ⟨cl32, Ar32, -, S32, M32, -, -⟩ := id V1
  obtain ⟨cl33, Ar33, -, S33, M33, -, -⟩ := id V1
  obtain ⟨cl34, Ar34, q34, S34, M34, H34, J34⟩ := id V1
  have hin34 : ¬ ((0 : Int32) < 0 ∨ cl34.slots.size ≤ ((0 : Int32)).toNatClampNeg) := inb_of S34 ⟨by decide, by decide⟩
  have hat34 : cl34.slots[((0 : Int32)).toNatClampNeg]? = some (.int x0) := Has.at H34 hin34 rfl
  obtain ⟨cl35, Ar35, q35, S35, M35, H35, J35⟩ := id V1
  have hin35 : ¬ ((1 : Int32) < 0 ∨ cl35.slots.size ≤ ((1 : Int32)).toNatClampNeg) := inb_of S35 ⟨by decide, by decide⟩
  have hat35 : cl35.slots[((1 : Int32)).toNatClampNeg]? = some (.int x1) := Has.at H35 hin35 rfl
  obtain ⟨cl36, Ar36, q36, S36, M36, H36, J36⟩ := id V1
  have hin36 : ¬ ((2 : Int32) < 0 ∨ cl36.slots.size ≤ ((2 : Int32)).toNatClampNeg) := inb_of S36 ⟨by decide, by decide⟩
  have hat36 : cl36.slots[((2 : Int32)).toNatClampNeg]? = some (.int x2) := Has.at H36 hin36 rfl
  obtain ⟨cl37, Ar37, q37, S37, M37, H37, J37⟩ := id V1
  have hin37 : ¬ ((3 : Int32) < 0 ∨ cl37.slots.size ≤ ((3 : Int32)).toNatClampNeg) := inb_of S37 ⟨by decide, by decide⟩
  have hat37 : cl37.slots[((3 : Int32)).toNatClampNeg]? = some (.int x3) := Has.at H37 hin37 rfl
  obtain ⟨_, _, ⟨T38, L38, k38, n38⟩, -, X38, ⟨Lc38, hQ38, l38, y38, z38⟩, st38⟩ := Jvm.LawKit.callS X0 hx (y := (⟨"com/example/forkline/forkline/bucketing/MurmurHash3", "scramble", "(I)I"⟩ : MethodName)) hown (mvT hZ (hw _ (List.mem_of_getElem? (i := 8) rfl))) (mvT hZ (hw _ (List.mem_of_getElem? (i := 9) rfl))) (mvT hZ (hw _ (List.mem_of_getElem? (i := 6) rfl))) (mvT hZ (hw _ (List.mem_of_getElem? (i := 10) rfl))) (by decide) (backOf (W := 1) (rm2 l Z a0 hw [] (own_blk x0 x1 x2 x3) h0 n0 Z0) hZ (hw _ (List.mem_of_getElem? (i := 10) rfl)) (hw _ (List.mem_of_getElem? (i := 6) rfl)) (by decide) (by decide)) (g := (mkF m 64 #[.val (.ref a1), .val (.int 0), .val (.int 4), .val (.int 0), .val (.int (own_blk x0 x1 x2 x3))] [(.int (own_blk x0 x1 x2 x3)), (.int 0)])) rfl (by rw [hml]; rfl) (argsL := [(.int (own_blk x0 x1 x2 x3))]) (rest := [(.int 0)]) (lenOf pd_28I29I rfl) rfl (by show 2 * 0 + _ ≤ _; exact Nat.le_of_eq rfl) (hb hby d_prog_21_method_2_code_64) (fun _ _ => ⟨rfl, e0, (by decide : 0 + 0 ≤ _), (by decide : 0 + 0 ≤ _)⟩)
  dsimp only [Pt.U, Pt.locs, Pt.cells, Pt.slots] at X38 l38 y38 z38 st38 hQ38
  subst l38 y38 z38
  obtain ⟨rfl, N38q, e38⟩ := hQ38
  have N38 := Fr.app N0 N38q
  obtain ⟨_, _, ⟨T39, L39, k39, n39⟩, -, X39, ⟨Lc39, hQ39, l39, y39, z39⟩, st39⟩ := Jvm.LawKit.callS X38 hx (y := (⟨"java/lang/Integer", "rotateLeft", "(II)I"⟩ : MethodName)) hown (mvT hZ (hw _ (List.mem_of_getElem? (i := 12) rfl))) (mvT hZ (hw _ (List.mem_of_getElem? (i := 13) rfl))) (mvT hZ (hw _ (List.mem_of_getElem? (i := 14) rfl))) (mvT hZ (hw _ (List.mem_of_getElem? (i := 15) rfl))) (by decide) (backOf (W := 0) (rm1 l Z a0 hw [] ((0 : Int32) ^^^ (own_scr (own_blk x0 x1 x2 x3))) (13 : Int32) h0 n0 Z0) hZ (hw _ (List.mem_of_getElem? (i := 15) rfl)) (hw _ (List.mem_of_getElem? (i := 14) rfl)) (by decide) (by decide)) (g := (mkF m 72 #[.val (.ref a1), .val (.int ((0 : Int32) ^^^ (own_scr (own_blk x0 x1 x2 x3)))), .val (.int 4), .val (.int 0), .val (.int (own_blk x0 x1 x2 x3))] [(.int 13), (.int ((0 : Int32) ^^^ (own_scr (own_blk x0 x1 x2 x3))))])) rfl (by rw [hml]; rfl) (argsL := [(.int ((0 : Int32) ^^^ (own_scr (own_blk x0 x1 x2 x3)))), (.int 13)]) (rest := []) (lenOf pd_28II29I rfl) rfl (by show 2 * 0 + _ ≤ _; exact Nat.le_of_eq rfl) (hb hby d_prog_21_method_2_code_72) (fun _ _ => ⟨rfl, e38, (by decide : 0 + 0 ≤ _), (by decide : 0 + 0 ≤ _)⟩)
  dsimp only [Pt.U, Pt.locs, Pt.cells, Pt.slots] at X39 l39 y39 z39 st39 hQ39
  subst l39 y39 z39
  obtain ⟨rfl, N39q, e39⟩ := hQ39
  have N39 := Fr.app N38 N39q
  obtain ⟨cl40, Ar40, -, S40, M40, -, -⟩ := id V1
  obtain ⟨_, _, ⟨T41, L41, k41, n41⟩, -, X41, ⟨Lc41, hQ41, l41, y41, z41⟩, st41⟩ := Jvm.LawKit.callS X39 hx (y := (⟨"com/example/forkline/forkline/bucketing/MurmurHash3", "scramble", "(I)I"⟩ : MethodName)) hown (mvT hZ (hw _ (List.mem_of_getElem? (i := 8) rfl))) (mvT hZ (hw _ (List.mem_of_getElem? (i := 9) rfl))) (mvT hZ (hw _ (List.mem_of_getElem? (i := 6) rfl))) (mvT hZ (hw _ (List.mem_of_getElem? (i := 10) rfl))) (by decide) (backOf (W := 1) (rm2 l Z a0 hw [] (0 : Int32) h0 n0 Z0) hZ (hw _ (List.mem_of_getElem? (i := 10) rfl)) (hw _ (List.mem_of_getElem? (i := 6) rfl)) (by decide) (by decide)) (g := (mkF m 123 #[.val (.ref a1), .val (.int (own_mb (0 : Int32) (own_blk x0 x1 x2 x3))), .val (.int 4), .val (.int 0), .val (.int 3)] [(.int 0), (.int (own_mb (0 : Int32) (own_blk x0 x1 x2 x3)))])) rfl (by rw [hml]; rfl) (argsL := [(.int 0)]) (rest := [(.int (own_mb (0 : Int32) (own_blk x0 x1 x2 x3)))]) (lenOf pd_28I29I rfl) rfl (by show 2 * 0 + _ ≤ _; exact Nat.le_of_eq rfl) (hb hby d_prog_21_method_2_code_123) (fun _ _ => ⟨rfl, e39, (by decide : 0 + 0 ≤ _), (by decide : 0 + 0 ≤ _)⟩)
  dsimp only [Pt.U, Pt.locs, Pt.cells, Pt.slots] at X41 l41 y41 z41 st41 hQ41
  subst l41 y41 z41
  obtain ⟨rfl, N41q, e41⟩ := hQ41
  have N41 := Fr.app N39 N41q
  obtain ⟨cl42, Ar42, -, S42, M42, -, -⟩ := id V1
  obtain ⟨_, _, ⟨T43, L43, k43, n43⟩, -, X43, ⟨Lc43, hQ43, l43, y43, z43⟩, st43⟩ := Jvm.LawKit.callS X41 hx (y := (⟨"com/example/forkline/forkline/bucketing/MurmurHash3", "finalMix", "(I)I"⟩ : MethodName)) hown (mvT hZ (hw _ (List.mem_of_getElem? (i := 17) rfl))) (mvT hZ (hw _ (List.mem_of_getElem? (i := 18) rfl))) (mvT hZ (hw _ (List.mem_of_getElem? (i := 6) rfl))) (mvT hZ (hw _ (List.mem_of_getElem? (i := 19) rfl))) (by decide) (backOf (W := 0) (rm3 l Z a0 hw [] (((own_mb (0 : Int32) (own_blk x0 x1 x2 x3)) ^^^ (own_scr (0 : Int32))) ^^^ (4 : Int32)) h0 n0 Z0) hZ (hw _ (List.mem_of_getElem? (i := 19) rfl)) (hw _ (List.mem_of_getElem? (i := 6) rfl)) (by decide) (by decide)) (g := (mkF m 134 #[.val (.ref a1), .val (.int (((own_mb (0 : Int32) (own_blk x0 x1 x2 x3)) ^^^ (own_scr (0 : Int32))) ^^^ (4 : Int32))), .val (.int 4), .val (.int 0), .val (.int 3)] [(.int (((own_mb (0 : Int32) (own_blk x0 x1 x2 x3)) ^^^ (own_scr (0 : Int32))) ^^^ (4 : Int32)))])) rfl (by rw [hml]; rfl) (argsL := [(.int (((own_mb (0 : Int32) (own_blk x0 x1 x2 x3)) ^^^ (own_scr (0 : Int32))) ^^^ (4 : Int32)))]) (rest := []) (lenOf pd_28I29I rfl) rfl (by show 2 * 0 + _ ≤ _; exact Nat.le_of_eq rfl) (hb hby d_prog_21_method_2_code_134) (fun _ _ => ⟨rfl, e41, (by decide : 0 + 0 ≤ _), (by decide : 0 + 0 ≤ _)⟩)
  dsimp only [Pt.U, Pt.locs, Pt.cells, Pt.slots] at X43 l43 y43 z43 st43 hQ43
  subst l43 y43 z43
  obtain ⟨rfl, N43q, e43⟩ := hQ43
  have N43 := Fr.app N41 N43q
  obtain ⟨fs, hr, hrun, hended, hW, hsame⟩ := X43.leave (v := some (.int (own_fin (((own_mb (0 : Int32) (own_blk x0 x1 x2 x3)) ^^^ (own_scr (0 : Int32))) ^^^ (4 : Int32))))) (fun h => by rw [Bd.returns] at h; cases h)
  refine ⟨_, _, pre0 _ ?_, hrun, hended, _, _, rfl, ?_, ⟨_, rfl⟩, hW, hsame.mono (by decide) (by decide)⟩
  · refine own_iconst X0.here hx (0 : Int32) (hb hby d_prog_21_method_2_code_0) rfl ?_
    refine own_istoreN X0.here hx (hb hby d_prog_21_method_2_code_1) (l' := #[.val (.ref a1), .val (.int 0), .unset, .unset, .unset]) rfl ?_
    refine own_aloadN X0.here hx (hb hby d_prog_21_method_2_code_2) rfl rfl ?_
    refine X0.arraylength hx (by rw [e0]; exact Ar32.1) (State.isArrayOf_alike hZ.alike Ar32.2.1) (g := (mkF m 3 #[.val (.ref a1), .val (.int 0), .unset, .unset, .unset] [(.ref a1)])) rfl rfl (hb hby d_prog_21_method_2_code_3) _ ?_
    rw [len_of S32 M32]
    show Steps p.tables e below (s₁.setTop (mkF m 4 #[.val (.ref a1), .val (.int 0), .unset, .unset, .unset] [(.int 4)])) _
    refine own_aloadN X0.here hx (hb hby d_prog_21_method_2_code_4) rfl rfl ?_
    refine X0.arraylength hx (by rw [e0]; exact Ar33.1) (State.isArrayOf_alike hZ.alike Ar33.2.1) (g := (mkF m 5 #[.val (.ref a1), .val (.int 0), .unset, .unset, .unset] [(.ref a1), (.int 4)])) rfl rfl (hb hby d_prog_21_method_2_code_5) _ ?_
    rw [len_of S33 M33]
    show Steps p.tables e below (s₁.setTop (mkF m 6 #[.val (.ref a1), .val (.int 0), .unset, .unset, .unset] [(.int 4), (.int 4)])) _
    refine own_iconst X0.here hx (4 : Int32) (hb hby d_prog_21_method_2_code_6) rfl ?_
    refine own_irem X0.here hx (hb hby d_prog_21_method_2_code_7) (by decide) ?_
    show Steps p.tables e below (s₁.setTop (mkF m 8 #[.val (.ref a1), .val (.int 0), .unset, .unset, .unset] [(.int 0), (.int 4)])) _
    refine own_isub X0.here hx (hb hby d_prog_21_method_2_code_8) ?_
    show Steps p.tables e below (s₁.setTop (mkF m 9 #[.val (.ref a1), .val (.int 0), .unset, .unset, .unset] [(.int 4)])) _
    refine own_istoreN X0.here hx (hb hby d_prog_21_method_2_code_9) (l' := #[.val (.ref a1), .val (.int 0), .val (.int 4), .unset, .unset]) rfl ?_
    refine own_iconst X0.here hx (0 : Int32) (hb hby d_prog_21_method_2_code_10) rfl ?_
    refine own_istoreN X0.here hx (hb hby d_prog_21_method_2_code_11) (l' := #[.val (.ref a1), .val (.int 0), .val (.int 4), .val (.int 0), .unset]) rfl ?_
    refine own_iloadN X0.here hx (hb hby d_prog_21_method_2_code_12) rfl ?_
    refine own_iloadN X0.here hx (hb hby d_prog_21_method_2_code_13) rfl ?_
    refine own_icmpNo X0.here hx (hb hby d_prog_21_method_2_code_14) (tlt (by decide : (0 : Int32) < (4 : Int32))).2.1 ?_
    refine own_aloadN X0.here hx (hb hby d_prog_21_method_2_code_17) rfl rfl ?_
    refine own_iloadN X0.here hx (hb hby d_prog_21_method_2_code_18) rfl ?_
    refine X0.baloadBytes hx (j := (0 : Int32)) (v := (.int x0)) (by rw [e0]; exact Ar34.1) (State.isArrayOf_alike hZ.alike Ar34.2.1) Ar34.2.2 hin34 hat34 (g := (mkF m 19 #[.val (.ref a1), .val (.int 0), .val (.int 4), .val (.int 0), .unset] [(.int 0), (.ref a1)])) rfl rfl (hb hby d_prog_21_method_2_code_19) _ ?_
    show Steps p.tables e below (s₁.setTop (mkF m 20 #[.val (.ref a1), .val (.int 0), .val (.int 4), .val (.int 0), .unset] [(.int x0)])) _
    refine own_sipush X0.here hx (255 : Int32) (hb hby d_prog_21_method_2_code_20) rfl ?_
    refine own_iand X0.here hx (hb hby d_prog_21_method_2_code_23) ?_
    refine own_aloadN X0.here hx (hb hby d_prog_21_method_2_code_24) rfl rfl ?_
    refine own_iloadN X0.here hx (hb hby d_prog_21_method_2_code_25) rfl ?_
    refine own_iconst X0.here hx (1 : Int32) (hb hby d_prog_21_method_2_code_26) rfl ?_
    refine own_iadd X0.here hx (hb hby d_prog_21_method_2_code_27) ?_
    show Steps p.tables e below (s₁.setTop (mkF m 28 #[.val (.ref a1), .val (.int 0), .val (.int 4), .val (.int 0), .unset] [(.int 1), (.ref a1), (.int (x0 &&& (255 : Int32)))])) _
    refine X0.baloadBytes hx (j := (1 : Int32)) (v := (.int x1)) (by rw [e0]; exact Ar35.1) (State.isArrayOf_alike hZ.alike Ar35.2.1) Ar35.2.2 hin35 hat35 (g := (mkF m 28 #[.val (.ref a1), .val (.int 0), .val (.int 4), .val (.int 0), .unset] [(.int 1), (.ref a1), (.int (x0 &&& (255 : Int32)))])) rfl rfl (hb hby d_prog_21_method_2_code_28) _ ?_
    show Steps p.tables e below (s₁.setTop (mkF m 29 #[.val (.ref a1), .val (.int 0), .val (.int 4), .val (.int 0), .unset] [(.int x1), (.int (x0 &&& (255 : Int32)))])) _
    refine own_sipush X0.here hx (255 : Int32) (hb hby d_prog_21_method_2_code_29) rfl ?_
    refine own_iand X0.here hx (hb hby d_prog_21_method_2_code_32) ?_
    refine own_bipush X0.here hx (8 : Int32) (hb hby d_prog_21_method_2_code_33) rfl ?_
    refine own_ishl X0.here hx (hb hby d_prog_21_method_2_code_35) ?_
    refine own_ior X0.here hx (hb hby d_prog_21_method_2_code_36) ?_
    refine own_aloadN X0.here hx (hb hby d_prog_21_method_2_code_37) rfl rfl ?_
    refine own_iloadN X0.here hx (hb hby d_prog_21_method_2_code_38) rfl ?_
    refine own_iconst X0.here hx (2 : Int32) (hb hby d_prog_21_method_2_code_39) rfl ?_
    refine own_iadd X0.here hx (hb hby d_prog_21_method_2_code_40) ?_
    show Steps p.tables e below (s₁.setTop (mkF m 41 #[.val (.ref a1), .val (.int 0), .val (.int 4), .val (.int 0), .unset] [(.int 2), (.ref a1), (.int ((x0 &&& (255 : Int32)) ||| ((x1 &&& (255 : Int32)) <<< ((8 : Int32) &&& 31))))])) _
    refine X0.baloadBytes hx (j := (2 : Int32)) (v := (.int x2)) (by rw [e0]; exact Ar36.1) (State.isArrayOf_alike hZ.alike Ar36.2.1) Ar36.2.2 hin36 hat36 (g := (mkF m 41 #[.val (.ref a1), .val (.int 0), .val (.int 4), .val (.int 0), .unset] [(.int 2), (.ref a1), (.int ((x0 &&& (255 : Int32)) ||| ((x1 &&& (255 : Int32)) <<< ((8 : Int32) &&& 31))))])) rfl rfl (hb hby d_prog_21_method_2_code_41) _ ?_
    show Steps p.tables e below (s₁.setTop (mkF m 42 #[.val (.ref a1), .val (.int 0), .val (.int 4), .val (.int 0), .unset] [(.int x2), (.int ((x0 &&& (255 : Int32)) ||| ((x1 &&& (255 : Int32)) <<< ((8 : Int32) &&& 31))))])) _
    refine own_sipush X0.here hx (255 : Int32) (hb hby d_prog_21_method_2_code_42) rfl ?_
    refine own_iand X0.here hx (hb hby d_prog_21_method_2_code_45) ?_
    refine own_bipush X0.here hx (16 : Int32) (hb hby d_prog_21_method_2_code_46) rfl ?_
    refine own_ishl X0.here hx (hb hby d_prog_21_method_2_code_48) ?_
    refine own_ior X0.here hx (hb hby d_prog_21_method_2_code_49) ?_
    refine own_aloadN X0.here hx (hb hby d_prog_21_method_2_code_50) rfl rfl ?_
    refine own_iloadN X0.here hx (hb hby d_prog_21_method_2_code_51) rfl ?_
    refine own_iconst X0.here hx (3 : Int32) (hb hby d_prog_21_method_2_code_52) rfl ?_
    refine own_iadd X0.here hx (hb hby d_prog_21_method_2_code_53) ?_
    show Steps p.tables e below (s₁.setTop (mkF m 54 #[.val (.ref a1), .val (.int 0), .val (.int 4), .val (.int 0), .unset] [(.int 3), (.ref a1), (.int (((x0 &&& (255 : Int32)) ||| ((x1 &&& (255 : Int32)) <<< ((8 : Int32) &&& 31))) ||| ((x2 &&& (255 : Int32)) <<< ((16 : Int32) &&& 31))))])) _
    refine X0.baloadBytes hx (j := (3 : Int32)) (v := (.int x3)) (by rw [e0]; exact Ar37.1) (State.isArrayOf_alike hZ.alike Ar37.2.1) Ar37.2.2 hin37 hat37 (g := (mkF m 54 #[.val (.ref a1), .val (.int 0), .val (.int 4), .val (.int 0), .unset] [(.int 3), (.ref a1), (.int (((x0 &&& (255 : Int32)) ||| ((x1 &&& (255 : Int32)) <<< ((8 : Int32) &&& 31))) ||| ((x2 &&& (255 : Int32)) <<< ((16 : Int32) &&& 31))))])) rfl rfl (hb hby d_prog_21_method_2_code_54) _ ?_
    show Steps p.tables e below (s₁.setTop (mkF m 55 #[.val (.ref a1), .val (.int 0), .val (.int 4), .val (.int 0), .unset] [(.int x3), (.int (((x0 &&& (255 : Int32)) ||| ((x1 &&& (255 : Int32)) <<< ((8 : Int32) &&& 31))) ||| ((x2 &&& (255 : Int32)) <<< ((16 : Int32) &&& 31))))])) _
    refine own_bipush X0.here hx (24 : Int32) (hb hby d_prog_21_method_2_code_55) rfl ?_
    refine own_ishl X0.here hx (hb hby d_prog_21_method_2_code_57) ?_
    refine own_ior X0.here hx (hb hby d_prog_21_method_2_code_58) ?_
    show Steps p.tables e below (s₁.setTop (mkF m 59 #[.val (.ref a1), .val (.int 0), .val (.int 4), .val (.int 0), .unset] [(.int (own_blk x0 x1 x2 x3))])) _
    refine own_istore X0.here hx (hb hby d_prog_21_method_2_code_59) (l' := #[.val (.ref a1), .val (.int 0), .val (.int 4), .val (.int 0), .val (.int (own_blk x0 x1 x2 x3))]) rfl ?_
    refine own_iloadN X0.here hx (hb hby d_prog_21_method_2_code_61) rfl ?_
    refine own_iload X0.here hx (hb hby d_prog_21_method_2_code_62) rfl ?_
    refine st38 _ ?_
    show Steps p.tables e below (T38.setTop (mkF m 67 #[.val (.ref a1), .val (.int 0), .val (.int 4), .val (.int 0), .val (.int (own_blk x0 x1 x2 x3))] [(.int (own_scr (own_blk x0 x1 x2 x3))), (.int 0)])) _
    refine own_ixor X38.here hx (hb hby d_prog_21_method_2_code_67) ?_
    refine own_istoreN X38.here hx (hb hby d_prog_21_method_2_code_68) (l' := #[.val (.ref a1), .val (.int ((0 : Int32) ^^^ (own_scr (own_blk x0 x1 x2 x3)))), .val (.int 4), .val (.int 0), .val (.int (own_blk x0 x1 x2 x3))]) rfl ?_
    refine own_iloadN X38.here hx (hb hby d_prog_21_method_2_code_69) rfl ?_
    refine own_bipush X38.here hx (13 : Int32) (hb hby d_prog_21_method_2_code_70) rfl ?_
    refine st39 _ ?_
    show Steps p.tables e below (T39.setTop (mkF m 75 #[.val (.ref a1), .val (.int ((0 : Int32) ^^^ (own_scr (own_blk x0 x1 x2 x3)))), .val (.int 4), .val (.int 0), .val (.int (own_blk x0 x1 x2 x3))] [(.int (own_rotl ((0 : Int32) ^^^ (own_scr (own_blk x0 x1 x2 x3))) (13 : Int32)))])) _
    refine own_iconst X39.here hx (5 : Int32) (hb hby d_prog_21_method_2_code_75) rfl ?_
    refine own_imul X39.here hx (hb hby d_prog_21_method_2_code_76) ?_
    refine X39.ldcInt hx hown (mvT hZ (hw _ (List.mem_of_getElem? (i := 29) rfl))) (g := (mkF m 77 #[.val (.ref a1), .val (.int ((0 : Int32) ^^^ (own_scr (own_blk x0 x1 x2 x3)))), .val (.int 4), .val (.int 0), .val (.int (own_blk x0 x1 x2 x3))] [(.int ((own_rotl ((0 : Int32) ^^^ (own_scr (own_blk x0 x1 x2 x3))) (13 : Int32)) * (5 : Int32)))])) rfl (hb hby d_prog_21_method_2_code_77) _ ?_
    show Steps p.tables e below (T39.setTop (mkF m 79 #[.val (.ref a1), .val (.int ((0 : Int32) ^^^ (own_scr (own_blk x0 x1 x2 x3)))), .val (.int 4), .val (.int 0), .val (.int (own_blk x0 x1 x2 x3))] [(.int (-430675100)), (.int ((own_rotl ((0 : Int32) ^^^ (own_scr (own_blk x0 x1 x2 x3))) (13 : Int32)) * (5 : Int32)))])) _
    refine own_iadd X39.here hx (hb hby d_prog_21_method_2_code_79) ?_
    show Steps p.tables e below (T39.setTop (mkF m 80 #[.val (.ref a1), .val (.int ((0 : Int32) ^^^ (own_scr (own_blk x0 x1 x2 x3)))), .val (.int 4), .val (.int 0), .val (.int (own_blk x0 x1 x2 x3))] [(.int (own_mb (0 : Int32) (own_blk x0 x1 x2 x3)))])) _
    refine own_istoreN X39.here hx (hb hby d_prog_21_method_2_code_80) (l' := #[.val (.ref a1), .val (.int (own_mb (0 : Int32) (own_blk x0 x1 x2 x3))), .val (.int 4), .val (.int 0), .val (.int (own_blk x0 x1 x2 x3))]) rfl ?_
    refine own_iinc X39.here hx (4 : Int32) (hb hby d_prog_21_method_2_code_81) rfl rfl (l' := #[.val (.ref a1), .val (.int (own_mb (0 : Int32) (own_blk x0 x1 x2 x3))), .val (.int 4), .val (.int 4), .val (.int (own_blk x0 x1 x2 x3))]) rfl ?_
    refine own_goto X39.here hx 84 12 rfl (hb hby d_prog_21_method_2_code_84) (by decide) (by decide) ?_
    refine own_iloadN X39.here hx (hb hby d_prog_21_method_2_code_12) rfl ?_
    refine own_iloadN X39.here hx (hb hby d_prog_21_method_2_code_13) rfl ?_
    refine own_icmpYes X39.here hx 14 87 rfl (hb hby d_prog_21_method_2_code_14) (flt (by decide : ¬ ((4 : Int32) < (4 : Int32)))).2.1 (by decide) (by decide) ?_
    refine own_iconst X39.here hx (0 : Int32) (hb hby d_prog_21_method_2_code_87) rfl ?_
    refine own_istoreN X39.here hx (hb hby d_prog_21_method_2_code_88) (l' := #[.val (.ref a1), .val (.int (own_mb (0 : Int32) (own_blk x0 x1 x2 x3))), .val (.int 4), .val (.int 0), .val (.int (own_blk x0 x1 x2 x3))]) rfl ?_
    refine own_aloadN X39.here hx (hb hby d_prog_21_method_2_code_89) rfl rfl ?_
    refine X39.arraylength hx (by rw [e39]; exact Ar40.1) (State.isArrayOf_alike hZ.alike Ar40.2.1) (g := (mkF m 90 #[.val (.ref a1), .val (.int (own_mb (0 : Int32) (own_blk x0 x1 x2 x3))), .val (.int 4), .val (.int 0), .val (.int (own_blk x0 x1 x2 x3))] [(.ref a1)])) rfl rfl (hb hby d_prog_21_method_2_code_90) _ ?_
    rw [len_of S40 M40]
    show Steps p.tables e below (T39.setTop (mkF m 91 #[.val (.ref a1), .val (.int (own_mb (0 : Int32) (own_blk x0 x1 x2 x3))), .val (.int 4), .val (.int 0), .val (.int (own_blk x0 x1 x2 x3))] [(.int 4)])) _
    refine own_iconst X39.here hx (1 : Int32) (hb hby d_prog_21_method_2_code_91) rfl ?_
    refine own_isub X39.here hx (hb hby d_prog_21_method_2_code_92) ?_
    show Steps p.tables e below (T39.setTop (mkF m 93 #[.val (.ref a1), .val (.int (own_mb (0 : Int32) (own_blk x0 x1 x2 x3))), .val (.int 4), .val (.int 0), .val (.int (own_blk x0 x1 x2 x3))] [(.int 3)])) _
    refine own_istore X39.here hx (hb hby d_prog_21_method_2_code_93) (l' := #[.val (.ref a1), .val (.int (own_mb (0 : Int32) (own_blk x0 x1 x2 x3))), .val (.int 4), .val (.int 0), .val (.int 3)]) rfl ?_
    refine own_iload X39.here hx (hb hby d_prog_21_method_2_code_95) rfl ?_
    refine own_iloadN X39.here hx (hb hby d_prog_21_method_2_code_97) rfl ?_
    refine own_icmpYes X39.here hx 98 121 rfl (hb hby d_prog_21_method_2_code_98) (tlt (by decide : (3 : Int32) < (4 : Int32))).1 (by decide) (by decide) ?_
    refine own_iloadN X39.here hx (hb hby d_prog_21_method_2_code_121) rfl ?_
    refine own_iloadN X39.here hx (hb hby d_prog_21_method_2_code_122) rfl ?_
    refine st41 _ ?_
    show Steps p.tables e below (T41.setTop (mkF m 126 #[.val (.ref a1), .val (.int (own_mb (0 : Int32) (own_blk x0 x1 x2 x3))), .val (.int 4), .val (.int 0), .val (.int 3)] [(.int (own_scr (0 : Int32))), (.int (own_mb (0 : Int32) (own_blk x0 x1 x2 x3)))])) _
    refine own_ixor X41.here hx (hb hby d_prog_21_method_2_code_126) ?_
    refine own_istoreN X41.here hx (hb hby d_prog_21_method_2_code_127) (l' := #[.val (.ref a1), .val (.int ((own_mb (0 : Int32) (own_blk x0 x1 x2 x3)) ^^^ (own_scr (0 : Int32)))), .val (.int 4), .val (.int 0), .val (.int 3)]) rfl ?_
    refine own_iloadN X41.here hx (hb hby d_prog_21_method_2_code_128) rfl ?_
    refine own_aloadN X41.here hx (hb hby d_prog_21_method_2_code_129) rfl rfl ?_
    refine X41.arraylength hx (by rw [e41]; exact Ar42.1) (State.isArrayOf_alike hZ.alike Ar42.2.1) (g := (mkF m 130 #[.val (.ref a1), .val (.int ((own_mb (0 : Int32) (own_blk x0 x1 x2 x3)) ^^^ (own_scr (0 : Int32)))), .val (.int 4), .val (.int 0), .val (.int 3)] [(.ref a1), (.int ((own_mb (0 : Int32) (own_blk x0 x1 x2 x3)) ^^^ (own_scr (0 : Int32))))])) rfl rfl (hb hby d_prog_21_method_2_code_130) _ ?_
    rw [len_of S42 M42]
    show Steps p.tables e below (T41.setTop (mkF m 131 #[.val (.ref a1), .val (.int ((own_mb (0 : Int32) (own_blk x0 x1 x2 x3)) ^^^ (own_scr (0 : Int32)))), .val (.int 4), .val (.int 0), .val (.int 3)] [(.int 4), (.int ((own_mb (0 : Int32) (own_blk x0 x1 x2 x3)) ^^^ (own_scr (0 : Int32))))])) _
    refine own_ixor X41.here hx (hb hby d_prog_21_method_2_code_131) ?_
    refine own_istoreN X41.here hx (hb hby d_prog_21_method_2_code_132) (l' := #[.val (.ref a1), .val (.int (((own_mb (0 : Int32) (own_blk x0 x1 x2 x3)) ^^^ (own_scr (0 : Int32))) ^^^ (4 : Int32))), .val (.int 4), .val (.int 0), .val (.int 3)]) rfl ?_
    refine own_iloadN X41.here hx (hb hby d_prog_21_method_2_code_133) rfl ?_
    refine st43 _ ?_
    show Steps p.tables e below (T43.setTop (mkF m 137 #[.val (.ref a1), .val (.int (((own_mb (0 : Int32) (own_blk x0 x1 x2 x3)) ^^^ (own_scr (0 : Int32))) ^^^ (4 : Int32))), .val (.int 4), .val (.int 0), .val (.int 3)] [(.int (own_fin (((own_mb (0 : Int32) (own_blk x0 x1 x2 x3)) ^^^ (own_scr (0 : Int32))) ^^^ (4 : Int32))))])) _
    exact retI X43 hx Bd.returns (hb hby d_prog_21_method_2_code_137) hr
  · show QH_4 Z a1 k1 x0 x1 x2 x3 h0 n0 _ T43.heap _
    rw [e43]
    exact ⟨rfl, N43, rfl⟩
theorem ef_rmH_5 (m : MethodId) (x0 : Addr) : entryFrame m #[(.ref x0)] 5 = mkF m 0 #[.val (.ref x0), .unset, .unset, .unset, .unset] [] := by first | (simp [entryFrame, mkF, argsToLocals, Value.category]; done) | rfl
def QH_5 (Z : State) (a1 : Addr) (k1 : ClassId) (x0 : Int32) (x1 : Int32) (x2 : Int32) (x3 : Int32) (x4 : Int32) (h0 : Heap) (n0 : Nat) (v : Option Value) (h : Heap) (L : List Loc) : Prop := v = some (.int (own_fin (((own_mb (0 : Int32) (own_blk x0 x1 x2 x3)) ^^^ (own_scr (own_t1 x4))) ^^^ (5 : Int32)))) ∧ Fr n0 L ∧ h = h0
set_option maxRecDepth 65536 in
set_option maxHeartbeats 40000000 in
theorem rmH_5 (l : Launch) (Z : State) (a0 : Array Value) (hw : ∀ d ∈ tables_1, d.before a0 Z = true) (ws : List Jvm.Cond) (a1 : Addr) (k1 : ClassId) (x0 : Int32) (x1 : Int32) (x2 : Int32) (x3 : Int32) (x4 : Int32) (h0 : Heap) (n0 : Nat) (Z0 : n0 ≤ h0.size) (V1 : Arv Z h0 a1 k1 .byte (5 : Int32) [(.int x0), (.int x1), (.int x2), (.int x3), (.int x4)] (.int (0 : Int32))) :
    MetFree l (⟨"com/example/forkline/forkline/bucketing/MurmurHash3", "hash32", "([B)I"⟩ : MethodName) (head1 (Jvm.Cond.code (⟨"com/example/forkline/forkline/bucketing/MurmurHash3", "hash32", "([B)I"⟩ : MethodName) prog_21_method_2_code 5 (some .int) :: ws) ({ frames := 2, cells := 0, slots := 0, locals := 26 } : Room)) (fun a U => a = #[(.ref a1)] ∧ Z.Warmed39 U.vm ∧ U.heap = h0) (fun _ _ _ _ _ => True) (fun _ U o U' => ∃ v L, o = .returned v ∧ QH_5 Z a1 k1 x0 x1 x2 x3 x4 h0 n0 v U'.heap L ∧ FrameEnd U o U' L ({ frames := 2, cells := 0, slots := 0, locals := 26 } : Room).cells ({ frames := 2, cells := 0, slots := 0, locals := 26 } : Room).slots) := by
  refine MetFree.of_bodySF (plainFor_of_name pn_com_example_forkline_forkline_bucketing_MurmurHash3) hisR ?_
  intro p e s m args below meth c s₁ Bd hml0 hP hK
  obtain ⟨rfl, hZ, hh⟩ := hP
  have hx := Bd.exec
  have hby := Bd.bytes
  have hml : c.maxLocals = 5 := hml0
  have hown : s.vm.findClass "com/example/forkline/forkline/bucketing/MurmurHash3" = some m.cls := findClass_of_methodNamed Bd.named
  have hnm := (name_of_methodNamed Bd.named Bd.method).1
  have X0 : Stand p l e ({ frames := 2, cells := 0, slots := 0, locals := 26 } : Room) s m #[(.ref a1)] below meth c s₁ [] 0 0 := Stand.of_body Bd
  have e0 : s₁.heap = h0 := by rw [← hh, Bd.state]; rfl
  have N0 := Fr.nil n0
  have pre0 : ∀ tG, Steps p.tables e below (s₁.setTop (mkF m 0 #[.val (.ref a1), .unset, .unset, .unset, .unset] [])) tG → Steps p.tables e below (s₁.setTop (entryFrame m #[(.ref a1)] 5)) tG := fun tG kG => castTop (ef_rmH_5 m a1) kG
  obtain ⟨cl44, Ar44, -, S44, M44, -, -⟩ := id V1
  obtain ⟨cl45, Ar45, -, S45, M45, -, -⟩ := id V1
  obtain ⟨cl46, Ar46, q46, S46, M46, H46, J46⟩ := id V1
  have hin46 : ¬ ((0 : Int32) < 0 ∨ cl46.slots.size ≤ ((0 : Int32)).toNatClampNeg) := inb_of S46 ⟨by decide, by decide⟩
  have hat46 : cl46.slots[((0 : Int32)).toNatClampNeg]? = some (.int x0) := Has.at H46 hin46 rfl
  obtain ⟨cl47, Ar47, q47, S47, M47, H47, J47⟩ := id V1
  have hin47 : ¬ ((1 : Int32) < 0 ∨ cl47.slots.size ≤ ((1 : Int32)).toNatClampNeg) := inb_of S47 ⟨by decide, by decide⟩
  have hat47 : cl47.slots[((1 : Int32)).toNatClampNeg]? = some (.int x1) := Has.at H47 hin47 rfl
  obtain ⟨cl48, Ar48, q48, S48, M48, H48, J48⟩ := id V1
  have hin48 : ¬ ((2 : Int32) < 0 ∨ cl48.slots.size ≤ ((2 : Int32)).toNatClampNeg) := inb_of S48 ⟨by decide, by decide⟩
  have hat48 : cl48.slots[((2 : Int32)).toNatClampNeg]? = some (.int x2) := Has.at H48 hin48 rfl
  obtain ⟨cl49, Ar49, q49, S49, M49, H49, J49⟩ := id V1
  have hin49 : ¬ ((3 : Int32) < 0 ∨ cl49.slots.size ≤ ((3 : Int32)).toNatClampNeg) := inb_of S49 ⟨by decide, by decide⟩
  have hat49 : cl49.slots[((3 : Int32)).toNatClampNeg]? = some (.int x3) := Has.at H49 hin49 rfl
  obtain ⟨_, _, ⟨T50, L50, k50, n50⟩, -, X50, ⟨Lc50, hQ50, l50, y50, z50⟩, st50⟩ := Jvm.LawKit.callS X0 hx (y := (⟨"com/example/forkline/forkline/bucketing/MurmurHash3", "scramble", "(I)I"⟩ : MethodName)) hown (mvT hZ (hw _ (List.mem_of_getElem? (i := 8) rfl))) (mvT hZ (hw _ (List.mem_of_getElem? (i := 9) rfl))) (mvT hZ (hw _ (List.mem_of_getElem? (i := 6) rfl))) (mvT hZ (hw _ (List.mem_of_getElem? (i := 10) rfl))) (by decide) (backOf (W := 1) (rm2 l Z a0 hw [] (own_blk x0 x1 x2 x3) h0 n0 Z0) hZ (hw _ (List.mem_of_getElem? (i := 10) rfl)) (hw _ (List.mem_of_getElem? (i := 6) rfl)) (by decide) (by decide)) (g := (mkF m 64 #[.val (.ref a1), .val (.int 0), .val (.int 4), .val (.int 0), .val (.int (own_blk x0 x1 x2 x3))] [(.int (own_blk x0 x1 x2 x3)), (.int 0)])) rfl (by rw [hml]; rfl) (argsL := [(.int (own_blk x0 x1 x2 x3))]) (rest := [(.int 0)]) (lenOf pd_28I29I rfl) rfl (by show 2 * 0 + _ ≤ _; exact Nat.le_of_eq rfl) (hb hby d_prog_21_method_2_code_64) (fun _ _ => ⟨rfl, e0, (by decide : 0 + 0 ≤ _), (by decide : 0 + 0 ≤ _)⟩)
  dsimp only [Pt.U, Pt.locs, Pt.cells, Pt.slots] at X50 l50 y50 z50 st50 hQ50
  subst l50 y50 z50
  obtain ⟨rfl, N50q, e50⟩ := hQ50
  have N50 := Fr.app N0 N50q
  obtain ⟨_, _, ⟨T51, L51, k51, n51⟩, -, X51, ⟨Lc51, hQ51, l51, y51, z51⟩, st51⟩ := Jvm.LawKit.callS X50 hx (y := (⟨"java/lang/Integer", "rotateLeft", "(II)I"⟩ : MethodName)) hown (mvT hZ (hw _ (List.mem_of_getElem? (i := 12) rfl))) (mvT hZ (hw _ (List.mem_of_getElem? (i := 13) rfl))) (mvT hZ (hw _ (List.mem_of_getElem? (i := 14) rfl))) (mvT hZ (hw _ (List.mem_of_getElem? (i := 15) rfl))) (by decide) (backOf (W := 0) (rm1 l Z a0 hw [] ((0 : Int32) ^^^ (own_scr (own_blk x0 x1 x2 x3))) (13 : Int32) h0 n0 Z0) hZ (hw _ (List.mem_of_getElem? (i := 15) rfl)) (hw _ (List.mem_of_getElem? (i := 14) rfl)) (by decide) (by decide)) (g := (mkF m 72 #[.val (.ref a1), .val (.int ((0 : Int32) ^^^ (own_scr (own_blk x0 x1 x2 x3)))), .val (.int 4), .val (.int 0), .val (.int (own_blk x0 x1 x2 x3))] [(.int 13), (.int ((0 : Int32) ^^^ (own_scr (own_blk x0 x1 x2 x3))))])) rfl (by rw [hml]; rfl) (argsL := [(.int ((0 : Int32) ^^^ (own_scr (own_blk x0 x1 x2 x3)))), (.int 13)]) (rest := []) (lenOf pd_28II29I rfl) rfl (by show 2 * 0 + _ ≤ _; exact Nat.le_of_eq rfl) (hb hby d_prog_21_method_2_code_72) (fun _ _ => ⟨rfl, e50, (by decide : 0 + 0 ≤ _), (by decide : 0 + 0 ≤ _)⟩)
  dsimp only [Pt.U, Pt.locs, Pt.cells, Pt.slots] at X51 l51 y51 z51 st51 hQ51
  subst l51 y51 z51
  obtain ⟨rfl, N51q, e51⟩ := hQ51
  have N51 := Fr.app N50 N51q
  obtain ⟨cl52, Ar52, -, S52, M52, -, -⟩ := id V1
  obtain ⟨cl53, Ar53, q53, S53, M53, H53, J53⟩ := id V1
  have hin53 : ¬ ((4 : Int32) < 0 ∨ cl53.slots.size ≤ ((4 : Int32)).toNatClampNeg) := inb_of S53 ⟨by decide, by decide⟩
  have hat53 : cl53.slots[((4 : Int32)).toNatClampNeg]? = some (.int x4) := Has.at H53 hin53 rfl
  obtain ⟨_, _, ⟨T54, L54, k54, n54⟩, -, X54, ⟨Lc54, hQ54, l54, y54, z54⟩, st54⟩ := Jvm.LawKit.callS X51 hx (y := (⟨"com/example/forkline/forkline/bucketing/MurmurHash3", "scramble", "(I)I"⟩ : MethodName)) hown (mvT hZ (hw _ (List.mem_of_getElem? (i := 8) rfl))) (mvT hZ (hw _ (List.mem_of_getElem? (i := 9) rfl))) (mvT hZ (hw _ (List.mem_of_getElem? (i := 6) rfl))) (mvT hZ (hw _ (List.mem_of_getElem? (i := 10) rfl))) (by decide) (backOf (W := 1) (rm2 l Z a0 hw [] (own_t1 x4) h0 n0 Z0) hZ (hw _ (List.mem_of_getElem? (i := 10) rfl)) (hw _ (List.mem_of_getElem? (i := 6) rfl)) (by decide) (by decide)) (g := (mkF m 123 #[.val (.ref a1), .val (.int (own_mb (0 : Int32) (own_blk x0 x1 x2 x3))), .val (.int 4), .val (.int (own_t1 x4)), .val (.int 3)] [(.int (own_t1 x4)), (.int (own_mb (0 : Int32) (own_blk x0 x1 x2 x3)))])) rfl (by rw [hml]; rfl) (argsL := [(.int (own_t1 x4))]) (rest := [(.int (own_mb (0 : Int32) (own_blk x0 x1 x2 x3)))]) (lenOf pd_28I29I rfl) rfl (by show 2 * 0 + _ ≤ _; exact Nat.le_of_eq rfl) (hb hby d_prog_21_method_2_code_123) (fun _ _ => ⟨rfl, e51, (by decide : 0 + 0 ≤ _), (by decide : 0 + 0 ≤ _)⟩)
  dsimp only [Pt.U, Pt.locs, Pt.cells, Pt.slots] at X54 l54 y54 z54 st54 hQ54
  subst l54 y54 z54
  obtain ⟨rfl, N54q, e54⟩ := hQ54
  have N54 := Fr.app N51 N54q
  obtain ⟨cl55, Ar55, -, S55, M55, -, -⟩ := id V1
  obtain ⟨_, _, ⟨T56, L56, k56, n56⟩, -, X56, ⟨Lc56, hQ56, l56, y56, z56⟩, st56⟩ := Jvm.LawKit.callS X54 hx (y := (⟨"com/example/forkline/forkline/bucketing/MurmurHash3", "finalMix", "(I)I"⟩ : MethodName)) hown (mvT hZ (hw _ (List.mem_of_getElem? (i := 17) rfl))) (mvT hZ (hw _ (List.mem_of_getElem? (i := 18) rfl))) (mvT hZ (hw _ (List.mem_of_getElem? (i := 6) rfl))) (mvT hZ (hw _ (List.mem_of_getElem? (i := 19) rfl))) (by decide) (backOf (W := 0) (rm3 l Z a0 hw [] (((own_mb (0 : Int32) (own_blk x0 x1 x2 x3)) ^^^ (own_scr (own_t1 x4))) ^^^ (5 : Int32)) h0 n0 Z0) hZ (hw _ (List.mem_of_getElem? (i := 19) rfl)) (hw _ (List.mem_of_getElem? (i := 6) rfl)) (by decide) (by decide)) (g := (mkF m 134 #[.val (.ref a1), .val (.int (((own_mb (0 : Int32) (own_blk x0 x1 x2 x3)) ^^^ (own_scr (own_t1 x4))) ^^^ (5 : Int32))), .val (.int 4), .val (.int (own_t1 x4)), .val (.int 3)] [(.int (((own_mb (0 : Int32) (own_blk x0 x1 x2 x3)) ^^^ (own_scr (own_t1 x4))) ^^^ (5 : Int32)))])) rfl (by rw [hml]; rfl) (argsL := [(.int (((own_mb (0 : Int32) (own_blk x0 x1 x2 x3)) ^^^ (own_scr (own_t1 x4))) ^^^ (5 : Int32)))]) (rest := []) (lenOf pd_28I29I rfl) rfl (by show 2 * 0 + _ ≤ _; exact Nat.le_of_eq rfl) (hb hby d_prog_21_method_2_code_134) (fun _ _ => ⟨rfl, e54, (by decide : 0 + 0 ≤ _), (by decide : 0 + 0 ≤ _)⟩)
  dsimp only [Pt.U, Pt.locs, Pt.cells, Pt.slots] at X56 l56 y56 z56 st56 hQ56
  subst l56 y56 z56
  obtain ⟨rfl, N56q, e56⟩ := hQ56
  have N56 := Fr.app N54 N56q
  obtain ⟨fs, hr, hrun, hended, hW, hsame⟩ := X56.leave (v := some (.int (own_fin (((own_mb (0 : Int32) (own_blk x0 x1 x2 x3)) ^^^ (own_scr (own_t1 x4))) ^^^ (5 : Int32))))) (fun h => by rw [Bd.returns] at h; cases h)
  refine ⟨_, _, pre0 _ ?_, hrun, hended, _, _, rfl, ?_, ⟨_, rfl⟩, hW, hsame.mono (by decide) (by decide)⟩
  · refine own_iconst X0.here hx (0 : Int32) (hb hby d_prog_21_method_2_code_0) rfl ?_
    refine own_istoreN X0.here hx (hb hby d_prog_21_method_2_code_1) (l' := #[.val (.ref a1), .val (.int 0), .unset, .unset, .unset]) rfl ?_
    refine own_aloadN X0.here hx (hb hby d_prog_21_method_2_code_2) rfl rfl ?_
    refine X0.arraylength hx (by rw [e0]; exact Ar44.1) (State.isArrayOf_alike hZ.alike Ar44.2.1) (g := (mkF m 3 #[.val (.ref a1), .val (.int 0), .unset, .unset, .unset] [(.ref a1)])) rfl rfl (hb hby d_prog_21_method_2_code_3) _ ?_
    rw [len_of S44 M44]
    show Steps p.tables e below (s₁.setTop (mkF m 4 #[.val (.ref a1), .val (.int 0), .unset, .unset, .unset] [(.int 5)])) _
    refine own_aloadN X0.here hx (hb hby d_prog_21_method_2_code_4) rfl rfl ?_
    refine X0.arraylength hx (by rw [e0]; exact Ar45.1) (State.isArrayOf_alike hZ.alike Ar45.2.1) (g := (mkF m 5 #[.val (.ref a1), .val (.int 0), .unset, .unset, .unset] [(.ref a1), (.int 5)])) rfl rfl (hb hby d_prog_21_method_2_code_5) _ ?_
    rw [len_of S45 M45]
    show Steps p.tables e below (s₁.setTop (mkF m 6 #[.val (.ref a1), .val (.int 0), .unset, .unset, .unset] [(.int 5), (.int 5)])) _
    refine own_iconst X0.here hx (4 : Int32) (hb hby d_prog_21_method_2_code_6) rfl ?_
    refine own_irem X0.here hx (hb hby d_prog_21_method_2_code_7) (by decide) ?_
    show Steps p.tables e below (s₁.setTop (mkF m 8 #[.val (.ref a1), .val (.int 0), .unset, .unset, .unset] [(.int 1), (.int 5)])) _
    refine own_isub X0.here hx (hb hby d_prog_21_method_2_code_8) ?_
    show Steps p.tables e below (s₁.setTop (mkF m 9 #[.val (.ref a1), .val (.int 0), .unset, .unset, .unset] [(.int 4)])) _
    refine own_istoreN X0.here hx (hb hby d_prog_21_method_2_code_9) (l' := #[.val (.ref a1), .val (.int 0), .val (.int 4), .unset, .unset]) rfl ?_
    refine own_iconst X0.here hx (0 : Int32) (hb hby d_prog_21_method_2_code_10) rfl ?_
    refine own_istoreN X0.here hx (hb hby d_prog_21_method_2_code_11) (l' := #[.val (.ref a1), .val (.int 0), .val (.int 4), .val (.int 0), .unset]) rfl ?_
    refine own_iloadN X0.here hx (hb hby d_prog_21_method_2_code_12) rfl ?_
    refine own_iloadN X0.here hx (hb hby d_prog_21_method_2_code_13) rfl ?_
    refine own_icmpNo X0.here hx (hb hby d_prog_21_method_2_code_14) (tlt (by decide : (0 : Int32) < (4 : Int32))).2.1 ?_
    refine own_aloadN X0.here hx (hb hby d_prog_21_method_2_code_17) rfl rfl ?_
    refine own_iloadN X0.here hx (hb hby d_prog_21_method_2_code_18) rfl ?_
    refine X0.baloadBytes hx (j := (0 : Int32)) (v := (.int x0)) (by rw [e0]; exact Ar46.1) (State.isArrayOf_alike hZ.alike Ar46.2.1) Ar46.2.2 hin46 hat46 (g := (mkF m 19 #[.val (.ref a1), .val (.int 0), .val (.int 4), .val (.int 0), .unset] [(.int 0), (.ref a1)])) rfl rfl (hb hby d_prog_21_method_2_code_19) _ ?_
    show Steps p.tables e below (s₁.setTop (mkF m 20 #[.val (.ref a1), .val (.int 0), .val (.int 4), .val (.int 0), .unset] [(.int x0)])) _
    refine own_sipush X0.here hx (255 : Int32) (hb hby d_prog_21_method_2_code_20) rfl ?_
    refine own_iand X0.here hx (hb hby d_prog_21_method_2_code_23) ?_
    refine own_aloadN X0.here hx (hb hby d_prog_21_method_2_code_24) rfl rfl ?_
    refine own_iloadN X0.here hx (hb hby d_prog_21_method_2_code_25) rfl ?_
    refine own_iconst X0.here hx (1 : Int32) (hb hby d_prog_21_method_2_code_26) rfl ?_
    refine own_iadd X0.here hx (hb hby d_prog_21_method_2_code_27) ?_
    show Steps p.tables e below (s₁.setTop (mkF m 28 #[.val (.ref a1), .val (.int 0), .val (.int 4), .val (.int 0), .unset] [(.int 1), (.ref a1), (.int (x0 &&& (255 : Int32)))])) _
    refine X0.baloadBytes hx (j := (1 : Int32)) (v := (.int x1)) (by rw [e0]; exact Ar47.1) (State.isArrayOf_alike hZ.alike Ar47.2.1) Ar47.2.2 hin47 hat47 (g := (mkF m 28 #[.val (.ref a1), .val (.int 0), .val (.int 4), .val (.int 0), .unset] [(.int 1), (.ref a1), (.int (x0 &&& (255 : Int32)))])) rfl rfl (hb hby d_prog_21_method_2_code_28) _ ?_
    show Steps p.tables e below (s₁.setTop (mkF m 29 #[.val (.ref a1), .val (.int 0), .val (.int 4), .val (.int 0), .unset] [(.int x1), (.int (x0 &&& (255 : Int32)))])) _
    refine own_sipush X0.here hx (255 : Int32) (hb hby d_prog_21_method_2_code_29) rfl ?_
    refine own_iand X0.here hx (hb hby d_prog_21_method_2_code_32) ?_
    refine own_bipush X0.here hx (8 : Int32) (hb hby d_prog_21_method_2_code_33) rfl ?_
    refine own_ishl X0.here hx (hb hby d_prog_21_method_2_code_35) ?_
    refine own_ior X0.here hx (hb hby d_prog_21_method_2_code_36) ?_
    refine own_aloadN X0.here hx (hb hby d_prog_21_method_2_code_37) rfl rfl ?_
    refine own_iloadN X0.here hx (hb hby d_prog_21_method_2_code_38) rfl ?_
    refine own_iconst X0.here hx (2 : Int32) (hb hby d_prog_21_method_2_code_39) rfl ?_
    refine own_iadd X0.here hx (hb hby d_prog_21_method_2_code_40) ?_
    show Steps p.tables e below (s₁.setTop (mkF m 41 #[.val (.ref a1), .val (.int 0), .val (.int 4), .val (.int 0), .unset] [(.int 2), (.ref a1), (.int ((x0 &&& (255 : Int32)) ||| ((x1 &&& (255 : Int32)) <<< ((8 : Int32) &&& 31))))])) _
    refine X0.baloadBytes hx (j := (2 : Int32)) (v := (.int x2)) (by rw [e0]; exact Ar48.1) (State.isArrayOf_alike hZ.alike Ar48.2.1) Ar48.2.2 hin48 hat48 (g := (mkF m 41 #[.val (.ref a1), .val (.int 0), .val (.int 4), .val (.int 0), .unset] [(.int 2), (.ref a1), (.int ((x0 &&& (255 : Int32)) ||| ((x1 &&& (255 : Int32)) <<< ((8 : Int32) &&& 31))))])) rfl rfl (hb hby d_prog_21_method_2_code_41) _ ?_
    show Steps p.tables e below (s₁.setTop (mkF m 42 #[.val (.ref a1), .val (.int 0), .val (.int 4), .val (.int 0), .unset] [(.int x2), (.int ((x0 &&& (255 : Int32)) ||| ((x1 &&& (255 : Int32)) <<< ((8 : Int32) &&& 31))))])) _
    refine own_sipush X0.here hx (255 : Int32) (hb hby d_prog_21_method_2_code_42) rfl ?_
    refine own_iand X0.here hx (hb hby d_prog_21_method_2_code_45) ?_
    refine own_bipush X0.here hx (16 : Int32) (hb hby d_prog_21_method_2_code_46) rfl ?_
    refine own_ishl X0.here hx (hb hby d_prog_21_method_2_code_48) ?_
    refine own_ior X0.here hx (hb hby d_prog_21_method_2_code_49) ?_
    refine own_aloadN X0.here hx (hb hby d_prog_21_method_2_code_50) rfl rfl ?_
    refine own_iloadN X0.here hx (hb hby d_prog_21_method_2_code_51) rfl ?_
    refine own_iconst X0.here hx (3 : Int32) (hb hby d_prog_21_method_2_code_52) rfl ?_
    refine own_iadd X0.here hx (hb hby d_prog_21_method_2_code_53) ?_
    show Steps p.tables e below (s₁.setTop (mkF m 54 #[.val (.ref a1), .val (.int 0), .val (.int 4), .val (.int 0), .unset] [(.int 3), (.ref a1), (.int (((x0 &&& (255 : Int32)) ||| ((x1 &&& (255 : Int32)) <<< ((8 : Int32) &&& 31))) ||| ((x2 &&& (255 : Int32)) <<< ((16 : Int32) &&& 31))))])) _
    refine X0.baloadBytes hx (j := (3 : Int32)) (v := (.int x3)) (by rw [e0]; exact Ar49.1) (State.isArrayOf_alike hZ.alike Ar49.2.1) Ar49.2.2 hin49 hat49 (g := (mkF m 54 #[.val (.ref a1), .val (.int 0), .val (.int 4), .val (.int 0), .unset] [(.int 3), (.ref a1), (.int (((x0 &&& (255 : Int32)) ||| ((x1 &&& (255 : Int32)) <<< ((8 : Int32) &&& 31))) ||| ((x2 &&& (255 : Int32)) <<< ((16 : Int32) &&& 31))))])) rfl rfl (hb hby d_prog_21_method_2_code_54) _ ?_
    show Steps p.tables e below (s₁.setTop (mkF m 55 #[.val (.ref a1), .val (.int 0), .val (.int 4), .val (.int 0), .unset] [(.int x3), (.int (((x0 &&& (255 : Int32)) ||| ((x1 &&& (255 : Int32)) <<< ((8 : Int32) &&& 31))) ||| ((x2 &&& (255 : Int32)) <<< ((16 : Int32) &&& 31))))])) _
    refine own_bipush X0.here hx (24 : Int32) (hb hby d_prog_21_method_2_code_55) rfl ?_
    refine own_ishl X0.here hx (hb hby d_prog_21_method_2_code_57) ?_
    refine own_ior X0.here hx (hb hby d_prog_21_method_2_code_58) ?_
    show Steps p.tables e below (s₁.setTop (mkF m 59 #[.val (.ref a1), .val (.int 0), .val (.int 4), .val (.int 0), .unset] [(.int (own_blk x0 x1 x2 x3))])) _
    refine own_istore X0.here hx (hb hby d_prog_21_method_2_code_59) (l' := #[.val (.ref a1), .val (.int 0), .val (.int 4), .val (.int 0), .val (.int (own_blk x0 x1 x2 x3))]) rfl ?_
    refine own_iloadN X0.here hx (hb hby d_prog_21_method_2_code_61) rfl ?_
    refine own_iload X0.here hx (hb hby d_prog_21_method_2_code_62) rfl ?_
    refine st50 _ ?_
    show Steps p.tables e below (T50.setTop (mkF m 67 #[.val (.ref a1), .val (.int 0), .val (.int 4), .val (.int 0), .val (.int (own_blk x0 x1 x2 x3))] [(.int (own_scr (own_blk x0 x1 x2 x3))), (.int 0)])) _
    refine own_ixor X50.here hx (hb hby d_prog_21_method_2_code_67) ?_
    refine own_istoreN X50.here hx (hb hby d_prog_21_method_2_code_68) (l' := #[.val (.ref a1), .val (.int ((0 : Int32) ^^^ (own_scr (own_blk x0 x1 x2 x3)))), .val (.int 4), .val (.int 0), .val (.int (own_blk x0 x1 x2 x3))]) rfl ?_
    refine own_iloadN X50.here hx (hb hby d_prog_21_method_2_code_69) rfl ?_
    refine own_bipush X50.here hx (13 : Int32) (hb hby d_prog_21_method_2_code_70) rfl ?_
    refine st51 _ ?_
    show Steps p.tables e below (T51.setTop (mkF m 75 #[.val (.ref a1), .val (.int ((0 : Int32) ^^^ (own_scr (own_blk x0 x1 x2 x3)))), .val (.int 4), .val (.int 0), .val (.int (own_blk x0 x1 x2 x3))] [(.int (own_rotl ((0 : Int32) ^^^ (own_scr (own_blk x0 x1 x2 x3))) (13 : Int32)))])) _
    refine own_iconst X51.here hx (5 : Int32) (hb hby d_prog_21_method_2_code_75) rfl ?_
    refine own_imul X51.here hx (hb hby d_prog_21_method_2_code_76) ?_
    refine X51.ldcInt hx hown (mvT hZ (hw _ (List.mem_of_getElem? (i := 29) rfl))) (g := (mkF m 77 #[.val (.ref a1), .val (.int ((0 : Int32) ^^^ (own_scr (own_blk x0 x1 x2 x3)))), .val (.int 4), .val (.int 0), .val (.int (own_blk x0 x1 x2 x3))] [(.int ((own_rotl ((0 : Int32) ^^^ (own_scr (own_blk x0 x1 x2 x3))) (13 : Int32)) * (5 : Int32)))])) rfl (hb hby d_prog_21_method_2_code_77) _ ?_
    show Steps p.tables e below (T51.setTop (mkF m 79 #[.val (.ref a1), .val (.int ((0 : Int32) ^^^ (own_scr (own_blk x0 x1 x2 x3)))), .val (.int 4), .val (.int 0), .val (.int (own_blk x0 x1 x2 x3))] [(.int (-430675100)), (.int ((own_rotl ((0 : Int32) ^^^ (own_scr (own_blk x0 x1 x2 x3))) (13 : Int32)) * (5 : Int32)))])) _
    refine own_iadd X51.here hx (hb hby d_prog_21_method_2_code_79) ?_
    show Steps p.tables e below (T51.setTop (mkF m 80 #[.val (.ref a1), .val (.int ((0 : Int32) ^^^ (own_scr (own_blk x0 x1 x2 x3)))), .val (.int 4), .val (.int 0), .val (.int (own_blk x0 x1 x2 x3))] [(.int (own_mb (0 : Int32) (own_blk x0 x1 x2 x3)))])) _
    refine own_istoreN X51.here hx (hb hby d_prog_21_method_2_code_80) (l' := #[.val (.ref a1), .val (.int (own_mb (0 : Int32) (own_blk x0 x1 x2 x3))), .val (.int 4), .val (.int 0), .val (.int (own_blk x0 x1 x2 x3))]) rfl ?_
    refine own_iinc X51.here hx (4 : Int32) (hb hby d_prog_21_method_2_code_81) rfl rfl (l' := #[.val (.ref a1), .val (.int (own_mb (0 : Int32) (own_blk x0 x1 x2 x3))), .val (.int 4), .val (.int 4), .val (.int (own_blk x0 x1 x2 x3))]) rfl ?_
    refine own_goto X51.here hx 84 12 rfl (hb hby d_prog_21_method_2_code_84) (by decide) (by decide) ?_
    refine own_iloadN X51.here hx (hb hby d_prog_21_method_2_code_12) rfl ?_
    refine own_iloadN X51.here hx (hb hby d_prog_21_method_2_code_13) rfl ?_
    refine own_icmpYes X51.here hx 14 87 rfl (hb hby d_prog_21_method_2_code_14) (flt (by decide : ¬ ((4 : Int32) < (4 : Int32)))).2.1 (by decide) (by decide) ?_
    refine own_iconst X51.here hx (0 : Int32) (hb hby d_prog_21_method_2_code_87) rfl ?_
    refine own_istoreN X51.here hx (hb hby d_prog_21_method_2_code_88) (l' := #[.val (.ref a1), .val (.int (own_mb (0 : Int32) (own_blk x0 x1 x2 x3))), .val (.int 4), .val (.int 0), .val (.int (own_blk x0 x1 x2 x3))]) rfl ?_
    refine own_aloadN X51.here hx (hb hby d_prog_21_method_2_code_89) rfl rfl ?_
    refine X51.arraylength hx (by rw [e51]; exact Ar52.1) (State.isArrayOf_alike hZ.alike Ar52.2.1) (g := (mkF m 90 #[.val (.ref a1), .val (.int (own_mb (0 : Int32) (own_blk x0 x1 x2 x3))), .val (.int 4), .val (.int 0), .val (.int (own_blk x0 x1 x2 x3))] [(.ref a1)])) rfl rfl (hb hby d_prog_21_method_2_code_90) _ ?_
    rw [len_of S52 M52]
    show Steps p.tables e below (T51.setTop (mkF m 91 #[.val (.ref a1), .val (.int (own_mb (0 : Int32) (own_blk x0 x1 x2 x3))), .val (.int 4), .val (.int 0), .val (.int (own_blk x0 x1 x2 x3))] [(.int 5)])) _
    refine own_iconst X51.here hx (1 : Int32) (hb hby d_prog_21_method_2_code_91) rfl ?_
    refine own_isub X51.here hx (hb hby d_prog_21_method_2_code_92) ?_
    show Steps p.tables e below (T51.setTop (mkF m 93 #[.val (.ref a1), .val (.int (own_mb (0 : Int32) (own_blk x0 x1 x2 x3))), .val (.int 4), .val (.int 0), .val (.int (own_blk x0 x1 x2 x3))] [(.int 4)])) _
    refine own_istore X51.here hx (hb hby d_prog_21_method_2_code_93) (l' := #[.val (.ref a1), .val (.int (own_mb (0 : Int32) (own_blk x0 x1 x2 x3))), .val (.int 4), .val (.int 0), .val (.int 4)]) rfl ?_
    refine own_iload X51.here hx (hb hby d_prog_21_method_2_code_95) rfl ?_
    refine own_iloadN X51.here hx (hb hby d_prog_21_method_2_code_97) rfl ?_
    refine own_icmpNo X51.here hx (hb hby d_prog_21_method_2_code_98) (flt (by decide : ¬ ((4 : Int32) < (4 : Int32)))).1 ?_
    refine own_iloadN X51.here hx (hb hby d_prog_21_method_2_code_101) rfl ?_
    refine own_bipush X51.here hx (8 : Int32) (hb hby d_prog_21_method_2_code_102) rfl ?_
    refine own_ishl X51.here hx (hb hby d_prog_21_method_2_code_104) ?_
    show Steps p.tables e below (T51.setTop (mkF m 105 #[.val (.ref a1), .val (.int (own_mb (0 : Int32) (own_blk x0 x1 x2 x3))), .val (.int 4), .val (.int 0), .val (.int 4)] [(.int 0)])) _
    refine own_aloadN X51.here hx (hb hby d_prog_21_method_2_code_105) rfl rfl ?_
    refine own_iload X51.here hx (hb hby d_prog_21_method_2_code_106) rfl ?_
    refine X51.baloadBytes hx (j := (4 : Int32)) (v := (.int x4)) (by rw [e51]; exact Ar53.1) (State.isArrayOf_alike hZ.alike Ar53.2.1) Ar53.2.2 hin53 hat53 (g := (mkF m 108 #[.val (.ref a1), .val (.int (own_mb (0 : Int32) (own_blk x0 x1 x2 x3))), .val (.int 4), .val (.int 0), .val (.int 4)] [(.int 4), (.ref a1), (.int 0)])) rfl rfl (hb hby d_prog_21_method_2_code_108) _ ?_
    show Steps p.tables e below (T51.setTop (mkF m 109 #[.val (.ref a1), .val (.int (own_mb (0 : Int32) (own_blk x0 x1 x2 x3))), .val (.int 4), .val (.int 0), .val (.int 4)] [(.int x4), (.int 0)])) _
    refine own_sipush X51.here hx (255 : Int32) (hb hby d_prog_21_method_2_code_109) rfl ?_
    refine own_iand X51.here hx (hb hby d_prog_21_method_2_code_112) ?_
    refine own_ior X51.here hx (hb hby d_prog_21_method_2_code_113) ?_
    show Steps p.tables e below (T51.setTop (mkF m 114 #[.val (.ref a1), .val (.int (own_mb (0 : Int32) (own_blk x0 x1 x2 x3))), .val (.int 4), .val (.int 0), .val (.int 4)] [(.int (own_t1 x4))])) _
    refine own_istoreN X51.here hx (hb hby d_prog_21_method_2_code_114) (l' := #[.val (.ref a1), .val (.int (own_mb (0 : Int32) (own_blk x0 x1 x2 x3))), .val (.int 4), .val (.int (own_t1 x4)), .val (.int 4)]) rfl ?_
    refine own_iinc X51.here hx (-1 : Int32) (hb hby d_prog_21_method_2_code_115) rfl rfl (l' := #[.val (.ref a1), .val (.int (own_mb (0 : Int32) (own_blk x0 x1 x2 x3))), .val (.int 4), .val (.int (own_t1 x4)), .val (.int 3)]) rfl ?_
    refine own_goto X51.here hx 118 95 rfl (hb hby d_prog_21_method_2_code_118) (by decide) (by decide) ?_
    refine own_iload X51.here hx (hb hby d_prog_21_method_2_code_95) rfl ?_
    refine own_iloadN X51.here hx (hb hby d_prog_21_method_2_code_97) rfl ?_
    refine own_icmpYes X51.here hx 98 121 rfl (hb hby d_prog_21_method_2_code_98) (tlt (by decide : (3 : Int32) < (4 : Int32))).1 (by decide) (by decide) ?_
    refine own_iloadN X51.here hx (hb hby d_prog_21_method_2_code_121) rfl ?_
    refine own_iloadN X51.here hx (hb hby d_prog_21_method_2_code_122) rfl ?_
    refine st54 _ ?_
    show Steps p.tables e below (T54.setTop (mkF m 126 #[.val (.ref a1), .val (.int (own_mb (0 : Int32) (own_blk x0 x1 x2 x3))), .val (.int 4), .val (.int (own_t1 x4)), .val (.int 3)] [(.int (own_scr (own_t1 x4))), (.int (own_mb (0 : Int32) (own_blk x0 x1 x2 x3)))])) _
    refine own_ixor X54.here hx (hb hby d_prog_21_method_2_code_126) ?_
    refine own_istoreN X54.here hx (hb hby d_prog_21_method_2_code_127) (l' := #[.val (.ref a1), .val (.int ((own_mb (0 : Int32) (own_blk x0 x1 x2 x3)) ^^^ (own_scr (own_t1 x4)))), .val (.int 4), .val (.int (own_t1 x4)), .val (.int 3)]) rfl ?_
    refine own_iloadN X54.here hx (hb hby d_prog_21_method_2_code_128) rfl ?_
    refine own_aloadN X54.here hx (hb hby d_prog_21_method_2_code_129) rfl rfl ?_
    refine X54.arraylength hx (by rw [e54]; exact Ar55.1) (State.isArrayOf_alike hZ.alike Ar55.2.1) (g := (mkF m 130 #[.val (.ref a1), .val (.int ((own_mb (0 : Int32) (own_blk x0 x1 x2 x3)) ^^^ (own_scr (own_t1 x4)))), .val (.int 4), .val (.int (own_t1 x4)), .val (.int 3)] [(.ref a1), (.int ((own_mb (0 : Int32) (own_blk x0 x1 x2 x3)) ^^^ (own_scr (own_t1 x4))))])) rfl rfl (hb hby d_prog_21_method_2_code_130) _ ?_
    rw [len_of S55 M55]
    show Steps p.tables e below (T54.setTop (mkF m 131 #[.val (.ref a1), .val (.int ((own_mb (0 : Int32) (own_blk x0 x1 x2 x3)) ^^^ (own_scr (own_t1 x4)))), .val (.int 4), .val (.int (own_t1 x4)), .val (.int 3)] [(.int 5), (.int ((own_mb (0 : Int32) (own_blk x0 x1 x2 x3)) ^^^ (own_scr (own_t1 x4))))])) _
    refine own_ixor X54.here hx (hb hby d_prog_21_method_2_code_131) ?_
    refine own_istoreN X54.here hx (hb hby d_prog_21_method_2_code_132) (l' := #[.val (.ref a1), .val (.int (((own_mb (0 : Int32) (own_blk x0 x1 x2 x3)) ^^^ (own_scr (own_t1 x4))) ^^^ (5 : Int32))), .val (.int 4), .val (.int (own_t1 x4)), .val (.int 3)]) rfl ?_
    refine own_iloadN X54.here hx (hb hby d_prog_21_method_2_code_133) rfl ?_
    refine st56 _ ?_
    show Steps p.tables e below (T56.setTop (mkF m 137 #[.val (.ref a1), .val (.int (((own_mb (0 : Int32) (own_blk x0 x1 x2 x3)) ^^^ (own_scr (own_t1 x4))) ^^^ (5 : Int32))), .val (.int 4), .val (.int (own_t1 x4)), .val (.int 3)] [(.int (own_fin (((own_mb (0 : Int32) (own_blk x0 x1 x2 x3)) ^^^ (own_scr (own_t1 x4))) ^^^ (5 : Int32))))])) _
    exact retI X56 hx Bd.returns (hb hby d_prog_21_method_2_code_137) hr
  · show QH_5 Z a1 k1 x0 x1 x2 x3 x4 h0 n0 _ T56.heap _
    rw [e56]
    exact ⟨rfl, N56, rfl⟩
theorem ef_rmH_6 (m : MethodId) (x0 : Addr) : entryFrame m #[(.ref x0)] 5 = mkF m 0 #[.val (.ref x0), .unset, .unset, .unset, .unset] [] := by first | (simp [entryFrame, mkF, argsToLocals, Value.category]; done) | rfl
def QH_6 (Z : State) (a1 : Addr) (k1 : ClassId) (x0 : Int32) (x1 : Int32) (x2 : Int32) (x3 : Int32) (x4 : Int32) (x5 : Int32) (h0 : Heap) (n0 : Nat) (v : Option Value) (h : Heap) (L : List Loc) : Prop := v = some (.int (own_fin (((own_mb (0 : Int32) (own_blk x0 x1 x2 x3)) ^^^ (own_scr (own_t2 x4 x5))) ^^^ (6 : Int32)))) ∧ Fr n0 L ∧ h = h0
set_option maxRecDepth 65536 in
set_option maxHeartbeats 40000000 in
theorem rmH_6 (l : Launch) (Z : State) (a0 : Array Value) (hw : ∀ d ∈ tables_1, d.before a0 Z = true) (ws : List Jvm.Cond) (a1 : Addr) (k1 : ClassId) (x0 : Int32) (x1 : Int32) (x2 : Int32) (x3 : Int32) (x4 : Int32) (x5 : Int32) (h0 : Heap) (n0 : Nat) (Z0 : n0 ≤ h0.size) (V1 : Arv Z h0 a1 k1 .byte (6 : Int32) [(.int x0), (.int x1), (.int x2), (.int x3), (.int x4), (.int x5)] (.int (0 : Int32))) :
    MetFree l (⟨"com/example/forkline/forkline/bucketing/MurmurHash3", "hash32", "([B)I"⟩ : MethodName) (head1 (Jvm.Cond.code (⟨"com/example/forkline/forkline/bucketing/MurmurHash3", "hash32", "([B)I"⟩ : MethodName) prog_21_method_2_code 5 (some .int) :: ws) ({ frames := 2, cells := 0, slots := 0, locals := 26 } : Room)) (fun a U => a = #[(.ref a1)] ∧ Z.Warmed39 U.vm ∧ U.heap = h0) (fun _ _ _ _ _ => True) (fun _ U o U' => ∃ v L, o = .returned v ∧ QH_6 Z a1 k1 x0 x1 x2 x3 x4 x5 h0 n0 v U'.heap L ∧ FrameEnd U o U' L ({ frames := 2, cells := 0, slots := 0, locals := 26 } : Room).cells ({ frames := 2, cells := 0, slots := 0, locals := 26 } : Room).slots) := by
  refine MetFree.of_bodySF (plainFor_of_name pn_com_example_forkline_forkline_bucketing_MurmurHash3) hisR ?_
  intro p e s m args below meth c s₁ Bd hml0 hP hK
  obtain ⟨rfl, hZ, hh⟩ := hP
  have hx := Bd.exec
  have hby := Bd.bytes
  have hml : c.maxLocals = 5 := hml0
  have hown : s.vm.findClass "com/example/forkline/forkline/bucketing/MurmurHash3" = some m.cls := findClass_of_methodNamed Bd.named
  have hnm := (name_of_methodNamed Bd.named Bd.method).1
  have X0 : Stand p l e ({ frames := 2, cells := 0, slots := 0, locals := 26 } : Room) s m #[(.ref a1)] below meth c s₁ [] 0 0 := Stand.of_body Bd
  have e0 : s₁.heap = h0 := by rw [← hh, Bd.state]; rfl
  have N0 := Fr.nil n0
  have pre0 : ∀ tG, Steps p.tables e below (s₁.setTop (mkF m 0 #[.val (.ref a1), .unset, .unset, .unset, .unset] [])) tG → Steps p.tables e below (s₁.setTop (entryFrame m #[(.ref a1)] 5)) tG := fun tG kG => castTop (ef_rmH_6 m a1) kG
  obtain ⟨cl57, Ar57, -, S57, M57, -, -⟩ := id V1
  obtain ⟨cl58, Ar58, -, S58, M58, -, -⟩ := id V1
  obtain ⟨cl59, Ar59, q59, S59, M59, H59, J59⟩ := id V1
  have hin59 : ¬ ((0 : Int32) < 0 ∨ cl59.slots.size ≤ ((0 : Int32)).toNatClampNeg) := inb_of S59 ⟨by decide, by decide⟩
  have hat59 : cl59.slots[((0 : Int32)).toNatClampNeg]? = some (.int x0) := Has.at H59 hin59 rfl
  obtain ⟨cl60, Ar60, q60, S60, M60, H60, J60⟩ := id V1
  have hin60 : ¬ ((1 : Int32) < 0 ∨ cl60.slots.size ≤ ((1 : Int32)).toNatClampNeg) := inb_of S60 ⟨by decide, by decide⟩
  have hat60 : cl60.slots[((1 : Int32)).toNatClampNeg]? = some (.int x1) := Has.at H60 hin60 rfl
  obtain ⟨cl61, Ar61, q61, S61, M61, H61, J61⟩ := id V1
  have hin61 : ¬ ((2 : Int32) < 0 ∨ cl61.slots.size ≤ ((2 : Int32)).toNatClampNeg) := inb_of S61 ⟨by decide, by decide⟩
  have hat61 : cl61.slots[((2 : Int32)).toNatClampNeg]? = some (.int x2) := Has.at H61 hin61 rfl
  obtain ⟨cl62, Ar62, q62, S62, M62, H62, J62⟩ := id V1
  have hin62 : ¬ ((3 : Int32) < 0 ∨ cl62.slots.size ≤ ((3 : Int32)).toNatClampNeg) := inb_of S62 ⟨by decide, by decide⟩
  have hat62 : cl62.slots[((3 : Int32)).toNatClampNeg]? = some (.int x3) := Has.at H62 hin62 rfl
  obtain ⟨_, _, ⟨T63, L63, k63, n63⟩, -, X63, ⟨Lc63, hQ63, l63, y63, z63⟩, st63⟩ := Jvm.LawKit.callS X0 hx (y := (⟨"com/example/forkline/forkline/bucketing/MurmurHash3", "scramble", "(I)I"⟩ : MethodName)) hown (mvT hZ (hw _ (List.mem_of_getElem? (i := 8) rfl))) (mvT hZ (hw _ (List.mem_of_getElem? (i := 9) rfl))) (mvT hZ (hw _ (List.mem_of_getElem? (i := 6) rfl))) (mvT hZ (hw _ (List.mem_of_getElem? (i := 10) rfl))) (by decide) (backOf (W := 1) (rm2 l Z a0 hw [] (own_blk x0 x1 x2 x3) h0 n0 Z0) hZ (hw _ (List.mem_of_getElem? (i := 10) rfl)) (hw _ (List.mem_of_getElem? (i := 6) rfl)) (by decide) (by decide)) (g := (mkF m 64 #[.val (.ref a1), .val (.int 0), .val (.int 4), .val (.int 0), .val (.int (own_blk x0 x1 x2 x3))] [(.int (own_blk x0 x1 x2 x3)), (.int 0)])) rfl (by rw [hml]; rfl) (argsL := [(.int (own_blk x0 x1 x2 x3))]) (rest := [(.int 0)]) (lenOf pd_28I29I rfl) rfl (by show 2 * 0 + _ ≤ _; exact Nat.le_of_eq rfl) (hb hby d_prog_21_method_2_code_64) (fun _ _ => ⟨rfl, e0, (by decide : 0 + 0 ≤ _), (by decide : 0 + 0 ≤ _)⟩)
  dsimp only [Pt.U, Pt.locs, Pt.cells, Pt.slots] at X63 l63 y63 z63 st63 hQ63
  subst l63 y63 z63
  obtain ⟨rfl, N63q, e63⟩ := hQ63
  have N63 := Fr.app N0 N63q
  obtain ⟨_, _, ⟨T64, L64, k64, n64⟩, -, X64, ⟨Lc64, hQ64, l64, y64, z64⟩, st64⟩ := Jvm.LawKit.callS X63 hx (y := (⟨"java/lang/Integer", "rotateLeft", "(II)I"⟩ : MethodName)) hown (mvT hZ (hw _ (List.mem_of_getElem? (i := 12) rfl))) (mvT hZ (hw _ (List.mem_of_getElem? (i := 13) rfl))) (mvT hZ (hw _ (List.mem_of_getElem? (i := 14) rfl))) (mvT hZ (hw _ (List.mem_of_getElem? (i := 15) rfl))) (by decide) (backOf (W := 0) (rm1 l Z a0 hw [] ((0 : Int32) ^^^ (own_scr (own_blk x0 x1 x2 x3))) (13 : Int32) h0 n0 Z0) hZ (hw _ (List.mem_of_getElem? (i := 15) rfl)) (hw _ (List.mem_of_getElem? (i := 14) rfl)) (by decide) (by decide)) (g := (mkF m 72 #[.val (.ref a1), .val (.int ((0 : Int32) ^^^ (own_scr (own_blk x0 x1 x2 x3)))), .val (.int 4), .val (.int 0), .val (.int (own_blk x0 x1 x2 x3))] [(.int 13), (.int ((0 : Int32) ^^^ (own_scr (own_blk x0 x1 x2 x3))))])) rfl (by rw [hml]; rfl) (argsL := [(.int ((0 : Int32) ^^^ (own_scr (own_blk x0 x1 x2 x3)))), (.int 13)]) (rest := []) (lenOf pd_28II29I rfl) rfl (by show 2 * 0 + _ ≤ _; exact Nat.le_of_eq rfl) (hb hby d_prog_21_method_2_code_72) (fun _ _ => ⟨rfl, e63, (by decide : 0 + 0 ≤ _), (by decide : 0 + 0 ≤ _)⟩)
  dsimp only [Pt.U, Pt.locs, Pt.cells, Pt.slots] at X64 l64 y64 z64 st64 hQ64
  subst l64 y64 z64
  obtain ⟨rfl, N64q, e64⟩ := hQ64
  have N64 := Fr.app N63 N64q
  obtain ⟨cl65, Ar65, -, S65, M65, -, -⟩ := id V1
  obtain ⟨cl66, Ar66, q66, S66, M66, H66, J66⟩ := id V1
  have hin66 : ¬ ((5 : Int32) < 0 ∨ cl66.slots.size ≤ ((5 : Int32)).toNatClampNeg) := inb_of S66 ⟨by decide, by decide⟩
  have hat66 : cl66.slots[((5 : Int32)).toNatClampNeg]? = some (.int x5) := Has.at H66 hin66 rfl
  obtain ⟨cl67, Ar67, q67, S67, M67, H67, J67⟩ := id V1
  have hin67 : ¬ ((4 : Int32) < 0 ∨ cl67.slots.size ≤ ((4 : Int32)).toNatClampNeg) := inb_of S67 ⟨by decide, by decide⟩
  have hat67 : cl67.slots[((4 : Int32)).toNatClampNeg]? = some (.int x4) := Has.at H67 hin67 rfl
  obtain ⟨_, _, ⟨T68, L68, k68, n68⟩, -, X68, ⟨Lc68, hQ68, l68, y68, z68⟩, st68⟩ := Jvm.LawKit.callS X64 hx (y := (⟨"com/example/forkline/forkline/bucketing/MurmurHash3", "scramble", "(I)I"⟩ : MethodName)) hown (mvT hZ (hw _ (List.mem_of_getElem? (i := 8) rfl))) (mvT hZ (hw _ (List.mem_of_getElem? (i := 9) rfl))) (mvT hZ (hw _ (List.mem_of_getElem? (i := 6) rfl))) (mvT hZ (hw _ (List.mem_of_getElem? (i := 10) rfl))) (by decide) (backOf (W := 1) (rm2 l Z a0 hw [] (own_t2 x4 x5) h0 n0 Z0) hZ (hw _ (List.mem_of_getElem? (i := 10) rfl)) (hw _ (List.mem_of_getElem? (i := 6) rfl)) (by decide) (by decide)) (g := (mkF m 123 #[.val (.ref a1), .val (.int (own_mb (0 : Int32) (own_blk x0 x1 x2 x3))), .val (.int 4), .val (.int (own_t2 x4 x5)), .val (.int 3)] [(.int (own_t2 x4 x5)), (.int (own_mb (0 : Int32) (own_blk x0 x1 x2 x3)))])) rfl (by rw [hml]; rfl) (argsL := [(.int (own_t2 x4 x5))]) (rest := [(.int (own_mb (0 : Int32) (own_blk x0 x1 x2 x3)))]) (lenOf pd_28I29I rfl) rfl (by show 2 * 0 + _ ≤ _; exact Nat.le_of_eq rfl) (hb hby d_prog_21_method_2_code_123) (fun _ _ => ⟨rfl, e64, (by decide : 0 + 0 ≤ _), (by decide : 0 + 0 ≤ _)⟩)
  dsimp only [Pt.U, Pt.locs, Pt.cells, Pt.slots] at X68 l68 y68 z68 st68 hQ68
  subst l68 y68 z68
  obtain ⟨rfl, N68q, e68⟩ := hQ68
  have N68 := Fr.app N64 N68q
  obtain ⟨cl69, Ar69, -, S69, M69, -, -⟩ := id V1
  obtain ⟨_, _, ⟨T70, L70, k70, n70⟩, -, X70, ⟨Lc70, hQ70, l70, y70, z70⟩, st70⟩ := Jvm.LawKit.callS X68 hx (y := (⟨"com/example/forkline/forkline/bucketing/MurmurHash3", "finalMix", "(I)I"⟩ : MethodName)) hown (mvT hZ (hw _ (List.mem_of_getElem? (i := 17) rfl))) (mvT hZ (hw _ (List.mem_of_getElem? (i := 18) rfl))) (mvT hZ (hw _ (List.mem_of_getElem? (i := 6) rfl))) (mvT hZ (hw _ (List.mem_of_getElem? (i := 19) rfl))) (by decide) (backOf (W := 0) (rm3 l Z a0 hw [] (((own_mb (0 : Int32) (own_blk x0 x1 x2 x3)) ^^^ (own_scr (own_t2 x4 x5))) ^^^ (6 : Int32)) h0 n0 Z0) hZ (hw _ (List.mem_of_getElem? (i := 19) rfl)) (hw _ (List.mem_of_getElem? (i := 6) rfl)) (by decide) (by decide)) (g := (mkF m 134 #[.val (.ref a1), .val (.int (((own_mb (0 : Int32) (own_blk x0 x1 x2 x3)) ^^^ (own_scr (own_t2 x4 x5))) ^^^ (6 : Int32))), .val (.int 4), .val (.int (own_t2 x4 x5)), .val (.int 3)] [(.int (((own_mb (0 : Int32) (own_blk x0 x1 x2 x3)) ^^^ (own_scr (own_t2 x4 x5))) ^^^ (6 : Int32)))])) rfl (by rw [hml]; rfl) (argsL := [(.int (((own_mb (0 : Int32) (own_blk x0 x1 x2 x3)) ^^^ (own_scr (own_t2 x4 x5))) ^^^ (6 : Int32)))]) (rest := []) (lenOf pd_28I29I rfl) rfl (by show 2 * 0 + _ ≤ _; exact Nat.le_of_eq rfl) (hb hby d_prog_21_method_2_code_134) (fun _ _ => ⟨rfl, e68, (by decide : 0 + 0 ≤ _), (by decide : 0 + 0 ≤ _)⟩)
  dsimp only [Pt.U, Pt.locs, Pt.cells, Pt.slots] at X70 l70 y70 z70 st70 hQ70
  subst l70 y70 z70
  obtain ⟨rfl, N70q, e70⟩ := hQ70
  have N70 := Fr.app N68 N70q
  obtain ⟨fs, hr, hrun, hended, hW, hsame⟩ := X70.leave (v := some (.int (own_fin (((own_mb (0 : Int32) (own_blk x0 x1 x2 x3)) ^^^ (own_scr (own_t2 x4 x5))) ^^^ (6 : Int32))))) (fun h => by rw [Bd.returns] at h; cases h)
  refine ⟨_, _, pre0 _ ?_, hrun, hended, _, _, rfl, ?_, ⟨_, rfl⟩, hW, hsame.mono (by decide) (by decide)⟩
  · refine own_iconst X0.here hx (0 : Int32) (hb hby d_prog_21_method_2_code_0) rfl ?_
    refine own_istoreN X0.here hx (hb hby d_prog_21_method_2_code_1) (l' := #[.val (.ref a1), .val (.int 0), .unset, .unset, .unset]) rfl ?_
    refine own_aloadN X0.here hx (hb hby d_prog_21_method_2_code_2) rfl rfl ?_
    refine X0.arraylength hx (by rw [e0]; exact Ar57.1) (State.isArrayOf_alike hZ.alike Ar57.2.1) (g := (mkF m 3 #[.val (.ref a1), .val (.int 0), .unset, .unset, .unset] [(.ref a1)])) rfl rfl (hb hby d_prog_21_method_2_code_3) _ ?_
    rw [len_of S57 M57]
    show Steps p.tables e below (s₁.setTop (mkF m 4 #[.val (.ref a1), .val (.int 0), .unset, .unset, .unset] [(.int 6)])) _
    refine own_aloadN X0.here hx (hb hby d_prog_21_method_2_code_4) rfl rfl ?_
    refine X0.arraylength hx (by rw [e0]; exact Ar58.1) (State.isArrayOf_alike hZ.alike Ar58.2.1) (g := (mkF m 5 #[.val (.ref a1), .val (.int 0), .unset, .unset, .unset] [(.ref a1), (.int 6)])) rfl rfl (hb hby d_prog_21_method_2_code_5) _ ?_
    rw [len_of S58 M58]
    show Steps p.tables e below (s₁.setTop (mkF m 6 #[.val (.ref a1), .val (.int 0), .unset, .unset, .unset] [(.int 6), (.int 6)])) _
    refine own_iconst X0.here hx (4 : Int32) (hb hby d_prog_21_method_2_code_6) rfl ?_
    refine own_irem X0.here hx (hb hby d_prog_21_method_2_code_7) (by decide) ?_
    show Steps p.tables e below (s₁.setTop (mkF m 8 #[.val (.ref a1), .val (.int 0), .unset, .unset, .unset] [(.int 2), (.int 6)])) _
    refine own_isub X0.here hx (hb hby d_prog_21_method_2_code_8) ?_
    show Steps p.tables e below (s₁.setTop (mkF m 9 #[.val (.ref a1), .val (.int 0), .unset, .unset, .unset] [(.int 4)])) _
    refine own_istoreN X0.here hx (hb hby d_prog_21_method_2_code_9) (l' := #[.val (.ref a1), .val (.int 0), .val (.int 4), .unset, .unset]) rfl ?_
    refine own_iconst X0.here hx (0 : Int32) (hb hby d_prog_21_method_2_code_10) rfl ?_
    refine own_istoreN X0.here hx (hb hby d_prog_21_method_2_code_11) (l' := #[.val (.ref a1), .val (.int 0), .val (.int 4), .val (.int 0), .unset]) rfl ?_
    refine own_iloadN X0.here hx (hb hby d_prog_21_method_2_code_12) rfl ?_
    refine own_iloadN X0.here hx (hb hby d_prog_21_method_2_code_13) rfl ?_
    refine own_icmpNo X0.here hx (hb hby d_prog_21_method_2_code_14) (tlt (by decide : (0 : Int32) < (4 : Int32))).2.1 ?_
    refine own_aloadN X0.here hx (hb hby d_prog_21_method_2_code_17) rfl rfl ?_
    refine own_iloadN X0.here hx (hb hby d_prog_21_method_2_code_18) rfl ?_
    refine X0.baloadBytes hx (j := (0 : Int32)) (v := (.int x0)) (by rw [e0]; exact Ar59.1) (State.isArrayOf_alike hZ.alike Ar59.2.1) Ar59.2.2 hin59 hat59 (g := (mkF m 19 #[.val (.ref a1), .val (.int 0), .val (.int 4), .val (.int 0), .unset] [(.int 0), (.ref a1)])) rfl rfl (hb hby d_prog_21_method_2_code_19) _ ?_
    show Steps p.tables e below (s₁.setTop (mkF m 20 #[.val (.ref a1), .val (.int 0), .val (.int 4), .val (.int 0), .unset] [(.int x0)])) _
    refine own_sipush X0.here hx (255 : Int32) (hb hby d_prog_21_method_2_code_20) rfl ?_
    refine own_iand X0.here hx (hb hby d_prog_21_method_2_code_23) ?_
    refine own_aloadN X0.here hx (hb hby d_prog_21_method_2_code_24) rfl rfl ?_
    refine own_iloadN X0.here hx (hb hby d_prog_21_method_2_code_25) rfl ?_
    refine own_iconst X0.here hx (1 : Int32) (hb hby d_prog_21_method_2_code_26) rfl ?_
    refine own_iadd X0.here hx (hb hby d_prog_21_method_2_code_27) ?_
    show Steps p.tables e below (s₁.setTop (mkF m 28 #[.val (.ref a1), .val (.int 0), .val (.int 4), .val (.int 0), .unset] [(.int 1), (.ref a1), (.int (x0 &&& (255 : Int32)))])) _
    refine X0.baloadBytes hx (j := (1 : Int32)) (v := (.int x1)) (by rw [e0]; exact Ar60.1) (State.isArrayOf_alike hZ.alike Ar60.2.1) Ar60.2.2 hin60 hat60 (g := (mkF m 28 #[.val (.ref a1), .val (.int 0), .val (.int 4), .val (.int 0), .unset] [(.int 1), (.ref a1), (.int (x0 &&& (255 : Int32)))])) rfl rfl (hb hby d_prog_21_method_2_code_28) _ ?_
    show Steps p.tables e below (s₁.setTop (mkF m 29 #[.val (.ref a1), .val (.int 0), .val (.int 4), .val (.int 0), .unset] [(.int x1), (.int (x0 &&& (255 : Int32)))])) _
    refine own_sipush X0.here hx (255 : Int32) (hb hby d_prog_21_method_2_code_29) rfl ?_
    refine own_iand X0.here hx (hb hby d_prog_21_method_2_code_32) ?_
    refine own_bipush X0.here hx (8 : Int32) (hb hby d_prog_21_method_2_code_33) rfl ?_
    refine own_ishl X0.here hx (hb hby d_prog_21_method_2_code_35) ?_
    refine own_ior X0.here hx (hb hby d_prog_21_method_2_code_36) ?_
    refine own_aloadN X0.here hx (hb hby d_prog_21_method_2_code_37) rfl rfl ?_
    refine own_iloadN X0.here hx (hb hby d_prog_21_method_2_code_38) rfl ?_
    refine own_iconst X0.here hx (2 : Int32) (hb hby d_prog_21_method_2_code_39) rfl ?_
    refine own_iadd X0.here hx (hb hby d_prog_21_method_2_code_40) ?_
    show Steps p.tables e below (s₁.setTop (mkF m 41 #[.val (.ref a1), .val (.int 0), .val (.int 4), .val (.int 0), .unset] [(.int 2), (.ref a1), (.int ((x0 &&& (255 : Int32)) ||| ((x1 &&& (255 : Int32)) <<< ((8 : Int32) &&& 31))))])) _
    refine X0.baloadBytes hx (j := (2 : Int32)) (v := (.int x2)) (by rw [e0]; exact Ar61.1) (State.isArrayOf_alike hZ.alike Ar61.2.1) Ar61.2.2 hin61 hat61 (g := (mkF m 41 #[.val (.ref a1), .val (.int 0), .val (.int 4), .val (.int 0), .unset] [(.int 2), (.ref a1), (.int ((x0 &&& (255 : Int32)) ||| ((x1 &&& (255 : Int32)) <<< ((8 : Int32) &&& 31))))])) rfl rfl (hb hby d_prog_21_method_2_code_41) _ ?_
    show Steps p.tables e below (s₁.setTop (mkF m 42 #[.val (.ref a1), .val (.int 0), .val (.int 4), .val (.int 0), .unset] [(.int x2), (.int ((x0 &&& (255 : Int32)) ||| ((x1 &&& (255 : Int32)) <<< ((8 : Int32) &&& 31))))])) _
    refine own_sipush X0.here hx (255 : Int32) (hb hby d_prog_21_method_2_code_42) rfl ?_
    refine own_iand X0.here hx (hb hby d_prog_21_method_2_code_45) ?_
    refine own_bipush X0.here hx (16 : Int32) (hb hby d_prog_21_method_2_code_46) rfl ?_
    refine own_ishl X0.here hx (hb hby d_prog_21_method_2_code_48) ?_
    refine own_ior X0.here hx (hb hby d_prog_21_method_2_code_49) ?_
    refine own_aloadN X0.here hx (hb hby d_prog_21_method_2_code_50) rfl rfl ?_
    refine own_iloadN X0.here hx (hb hby d_prog_21_method_2_code_51) rfl ?_
    refine own_iconst X0.here hx (3 : Int32) (hb hby d_prog_21_method_2_code_52) rfl ?_
    refine own_iadd X0.here hx (hb hby d_prog_21_method_2_code_53) ?_
    show Steps p.tables e below (s₁.setTop (mkF m 54 #[.val (.ref a1), .val (.int 0), .val (.int 4), .val (.int 0), .unset] [(.int 3), (.ref a1), (.int (((x0 &&& (255 : Int32)) ||| ((x1 &&& (255 : Int32)) <<< ((8 : Int32) &&& 31))) ||| ((x2 &&& (255 : Int32)) <<< ((16 : Int32) &&& 31))))])) _
    refine X0.baloadBytes hx (j := (3 : Int32)) (v := (.int x3)) (by rw [e0]; exact Ar62.1) (State.isArrayOf_alike hZ.alike Ar62.2.1) Ar62.2.2 hin62 hat62 (g := (mkF m 54 #[.val (.ref a1), .val (.int 0), .val (.int 4), .val (.int 0), .unset] [(.int 3), (.ref a1), (.int (((x0 &&& (255 : Int32)) ||| ((x1 &&& (255 : Int32)) <<< ((8 : Int32) &&& 31))) ||| ((x2 &&& (255 : Int32)) <<< ((16 : Int32) &&& 31))))])) rfl rfl (hb hby d_prog_21_method_2_code_54) _ ?_
    show Steps p.tables e below (s₁.setTop (mkF m 55 #[.val (.ref a1), .val (.int 0), .val (.int 4), .val (.int 0), .unset] [(.int x3), (.int (((x0 &&& (255 : Int32)) ||| ((x1 &&& (255 : Int32)) <<< ((8 : Int32) &&& 31))) ||| ((x2 &&& (255 : Int32)) <<< ((16 : Int32) &&& 31))))])) _
    refine own_bipush X0.here hx (24 : Int32) (hb hby d_prog_21_method_2_code_55) rfl ?_
    refine own_ishl X0.here hx (hb hby d_prog_21_method_2_code_57) ?_
    refine own_ior X0.here hx (hb hby d_prog_21_method_2_code_58) ?_
    show Steps p.tables e below (s₁.setTop (mkF m 59 #[.val (.ref a1), .val (.int 0), .val (.int 4), .val (.int 0), .unset] [(.int (own_blk x0 x1 x2 x3))])) _
    refine own_istore X0.here hx (hb hby d_prog_21_method_2_code_59) (l' := #[.val (.ref a1), .val (.int 0), .val (.int 4), .val (.int 0), .val (.int (own_blk x0 x1 x2 x3))]) rfl ?_
    refine own_iloadN X0.here hx (hb hby d_prog_21_method_2_code_61) rfl ?_
    refine own_iload X0.here hx (hb hby d_prog_21_method_2_code_62) rfl ?_
    refine st63 _ ?_
    show Steps p.tables e below (T63.setTop (mkF m 67 #[.val (.ref a1), .val (.int 0), .val (.int 4), .val (.int 0), .val (.int (own_blk x0 x1 x2 x3))] [(.int (own_scr (own_blk x0 x1 x2 x3))), (.int 0)])) _
    refine own_ixor X63.here hx (hb hby d_prog_21_method_2_code_67) ?_
    refine own_istoreN X63.here hx (hb hby d_prog_21_method_2_code_68) (l' := #[.val (.ref a1), .val (.int ((0 : Int32) ^^^ (own_scr (own_blk x0 x1 x2 x3)))), .val (.int 4), .val (.int 0), .val (.int (own_blk x0 x1 x2 x3))]) rfl ?_
    refine own_iloadN X63.here hx (hb hby d_prog_21_method_2_code_69) rfl ?_
    refine own_bipush X63.here hx (13 : Int32) (hb hby d_prog_21_method_2_code_70) rfl ?_
    refine st64 _ ?_
    show Steps p.tables e below (T64.setTop (mkF m 75 #[.val (.ref a1), .val (.int ((0 : Int32) ^^^ (own_scr (own_blk x0 x1 x2 x3)))), .val (.int 4), .val (.int 0), .val (.int (own_blk x0 x1 x2 x3))] [(.int (own_rotl ((0 : Int32) ^^^ (own_scr (own_blk x0 x1 x2 x3))) (13 : Int32)))])) _
    refine own_iconst X64.here hx (5 : Int32) (hb hby d_prog_21_method_2_code_75) rfl ?_
    refine own_imul X64.here hx (hb hby d_prog_21_method_2_code_76) ?_
    refine X64.ldcInt hx hown (mvT hZ (hw _ (List.mem_of_getElem? (i := 29) rfl))) (g := (mkF m 77 #[.val (.ref a1), .val (.int ((0 : Int32) ^^^ (own_scr (own_blk x0 x1 x2 x3)))), .val (.int 4), .val (.int 0), .val (.int (own_blk x0 x1 x2 x3))] [(.int ((own_rotl ((0 : Int32) ^^^ (own_scr (own_blk x0 x1 x2 x3))) (13 : Int32)) * (5 : Int32)))])) rfl (hb hby d_prog_21_method_2_code_77) _ ?_
    show Steps p.tables e below (T64.setTop (mkF m 79 #[.val (.ref a1), .val (.int ((0 : Int32) ^^^ (own_scr (own_blk x0 x1 x2 x3)))), .val (.int 4), .val (.int 0), .val (.int (own_blk x0 x1 x2 x3))] [(.int (-430675100)), (.int ((own_rotl ((0 : Int32) ^^^ (own_scr (own_blk x0 x1 x2 x3))) (13 : Int32)) * (5 : Int32)))])) _
    refine own_iadd X64.here hx (hb hby d_prog_21_method_2_code_79) ?_
    show Steps p.tables e below (T64.setTop (mkF m 80 #[.val (.ref a1), .val (.int ((0 : Int32) ^^^ (own_scr (own_blk x0 x1 x2 x3)))), .val (.int 4), .val (.int 0), .val (.int (own_blk x0 x1 x2 x3))] [(.int (own_mb (0 : Int32) (own_blk x0 x1 x2 x3)))])) _
    refine own_istoreN X64.here hx (hb hby d_prog_21_method_2_code_80) (l' := #[.val (.ref a1), .val (.int (own_mb (0 : Int32) (own_blk x0 x1 x2 x3))), .val (.int 4), .val (.int 0), .val (.int (own_blk x0 x1 x2 x3))]) rfl ?_
    refine own_iinc X64.here hx (4 : Int32) (hb hby d_prog_21_method_2_code_81) rfl rfl (l' := #[.val (.ref a1), .val (.int (own_mb (0 : Int32) (own_blk x0 x1 x2 x3))), .val (.int 4), .val (.int 4), .val (.int (own_blk x0 x1 x2 x3))]) rfl ?_
    refine own_goto X64.here hx 84 12 rfl (hb hby d_prog_21_method_2_code_84) (by decide) (by decide) ?_
    refine own_iloadN X64.here hx (hb hby d_prog_21_method_2_code_12) rfl ?_
    refine own_iloadN X64.here hx (hb hby d_prog_21_method_2_code_13) rfl ?_
    refine own_icmpYes X64.here hx 14 87 rfl (hb hby d_prog_21_method_2_code_14) (flt (by decide : ¬ ((4 : Int32) < (4 : Int32)))).2.1 (by decide) (by decide) ?_
    refine own_iconst X64.here hx (0 : Int32) (hb hby d_prog_21_method_2_code_87) rfl ?_
    refine own_istoreN X64.here hx (hb hby d_prog_21_method_2_code_88) (l' := #[.val (.ref a1), .val (.int (own_mb (0 : Int32) (own_blk x0 x1 x2 x3))), .val (.int 4), .val (.int 0), .val (.int (own_blk x0 x1 x2 x3))]) rfl ?_
    refine own_aloadN X64.here hx (hb hby d_prog_21_method_2_code_89) rfl rfl ?_
    refine X64.arraylength hx (by rw [e64]; exact Ar65.1) (State.isArrayOf_alike hZ.alike Ar65.2.1) (g := (mkF m 90 #[.val (.ref a1), .val (.int (own_mb (0 : Int32) (own_blk x0 x1 x2 x3))), .val (.int 4), .val (.int 0), .val (.int (own_blk x0 x1 x2 x3))] [(.ref a1)])) rfl rfl (hb hby d_prog_21_method_2_code_90) _ ?_
    rw [len_of S65 M65]
    show Steps p.tables e below (T64.setTop (mkF m 91 #[.val (.ref a1), .val (.int (own_mb (0 : Int32) (own_blk x0 x1 x2 x3))), .val (.int 4), .val (.int 0), .val (.int (own_blk x0 x1 x2 x3))] [(.int 6)])) _
    refine own_iconst X64.here hx (1 : Int32) (hb hby d_prog_21_method_2_code_91) rfl ?_
    refine own_isub X64.here hx (hb hby d_prog_21_method_2_code_92) ?_
    show Steps p.tables e below (T64.setTop (mkF m 93 #[.val (.ref a1), .val (.int (own_mb (0 : Int32) (own_blk x0 x1 x2 x3))), .val (.int 4), .val (.int 0), .val (.int (own_blk x0 x1 x2 x3))] [(.int 5)])) _
    refine own_istore X64.here hx (hb hby d_prog_21_method_2_code_93) (l' := #[.val (.ref a1), .val (.int (own_mb (0 : Int32) (own_blk x0 x1 x2 x3))), .val (.int 4), .val (.int 0), .val (.int 5)]) rfl ?_
    refine own_iload X64.here hx (hb hby d_prog_21_method_2_code_95) rfl ?_
    refine own_iloadN X64.here hx (hb hby d_prog_21_method_2_code_97) rfl ?_
    refine own_icmpNo X64.here hx (hb hby d_prog_21_method_2_code_98) (flt (by decide : ¬ ((5 : Int32) < (4 : Int32)))).1 ?_
    refine own_iloadN X64.here hx (hb hby d_prog_21_method_2_code_101) rfl ?_
    refine own_bipush X64.here hx (8 : Int32) (hb hby d_prog_21_method_2_code_102) rfl ?_
    refine own_ishl X64.here hx (hb hby d_prog_21_method_2_code_104) ?_
    show Steps p.tables e below (T64.setTop (mkF m 105 #[.val (.ref a1), .val (.int (own_mb (0 : Int32) (own_blk x0 x1 x2 x3))), .val (.int 4), .val (.int 0), .val (.int 5)] [(.int 0)])) _
    refine own_aloadN X64.here hx (hb hby d_prog_21_method_2_code_105) rfl rfl ?_
    refine own_iload X64.here hx (hb hby d_prog_21_method_2_code_106) rfl ?_
    refine X64.baloadBytes hx (j := (5 : Int32)) (v := (.int x5)) (by rw [e64]; exact Ar66.1) (State.isArrayOf_alike hZ.alike Ar66.2.1) Ar66.2.2 hin66 hat66 (g := (mkF m 108 #[.val (.ref a1), .val (.int (own_mb (0 : Int32) (own_blk x0 x1 x2 x3))), .val (.int 4), .val (.int 0), .val (.int 5)] [(.int 5), (.ref a1), (.int 0)])) rfl rfl (hb hby d_prog_21_method_2_code_108) _ ?_
    show Steps p.tables e below (T64.setTop (mkF m 109 #[.val (.ref a1), .val (.int (own_mb (0 : Int32) (own_blk x0 x1 x2 x3))), .val (.int 4), .val (.int 0), .val (.int 5)] [(.int x5), (.int 0)])) _
    refine own_sipush X64.here hx (255 : Int32) (hb hby d_prog_21_method_2_code_109) rfl ?_
    refine own_iand X64.here hx (hb hby d_prog_21_method_2_code_112) ?_
    refine own_ior X64.here hx (hb hby d_prog_21_method_2_code_113) ?_
    show Steps p.tables e below (T64.setTop (mkF m 114 #[.val (.ref a1), .val (.int (own_mb (0 : Int32) (own_blk x0 x1 x2 x3))), .val (.int 4), .val (.int 0), .val (.int 5)] [(.int (own_t1 x5))])) _
    refine own_istoreN X64.here hx (hb hby d_prog_21_method_2_code_114) (l' := #[.val (.ref a1), .val (.int (own_mb (0 : Int32) (own_blk x0 x1 x2 x3))), .val (.int 4), .val (.int (own_t1 x5)), .val (.int 5)]) rfl ?_
    refine own_iinc X64.here hx (-1 : Int32) (hb hby d_prog_21_method_2_code_115) rfl rfl (l' := #[.val (.ref a1), .val (.int (own_mb (0 : Int32) (own_blk x0 x1 x2 x3))), .val (.int 4), .val (.int (own_t1 x5)), .val (.int 4)]) rfl ?_
    refine own_goto X64.here hx 118 95 rfl (hb hby d_prog_21_method_2_code_118) (by decide) (by decide) ?_
    refine own_iload X64.here hx (hb hby d_prog_21_method_2_code_95) rfl ?_
    refine own_iloadN X64.here hx (hb hby d_prog_21_method_2_code_97) rfl ?_
    refine own_icmpNo X64.here hx (hb hby d_prog_21_method_2_code_98) (flt (by decide : ¬ ((4 : Int32) < (4 : Int32)))).1 ?_
    refine own_iloadN X64.here hx (hb hby d_prog_21_method_2_code_101) rfl ?_
    refine own_bipush X64.here hx (8 : Int32) (hb hby d_prog_21_method_2_code_102) rfl ?_
    refine own_ishl X64.here hx (hb hby d_prog_21_method_2_code_104) ?_
    refine own_aloadN X64.here hx (hb hby d_prog_21_method_2_code_105) rfl rfl ?_
    refine own_iload X64.here hx (hb hby d_prog_21_method_2_code_106) rfl ?_
    refine X64.baloadBytes hx (j := (4 : Int32)) (v := (.int x4)) (by rw [e64]; exact Ar67.1) (State.isArrayOf_alike hZ.alike Ar67.2.1) Ar67.2.2 hin67 hat67 (g := (mkF m 108 #[.val (.ref a1), .val (.int (own_mb (0 : Int32) (own_blk x0 x1 x2 x3))), .val (.int 4), .val (.int (own_t1 x5)), .val (.int 4)] [(.int 4), (.ref a1), (.int ((own_t1 x5) <<< ((8 : Int32) &&& 31)))])) rfl rfl (hb hby d_prog_21_method_2_code_108) _ ?_
    show Steps p.tables e below (T64.setTop (mkF m 109 #[.val (.ref a1), .val (.int (own_mb (0 : Int32) (own_blk x0 x1 x2 x3))), .val (.int 4), .val (.int (own_t1 x5)), .val (.int 4)] [(.int x4), (.int ((own_t1 x5) <<< ((8 : Int32) &&& 31)))])) _
    refine own_sipush X64.here hx (255 : Int32) (hb hby d_prog_21_method_2_code_109) rfl ?_
    refine own_iand X64.here hx (hb hby d_prog_21_method_2_code_112) ?_
    refine own_ior X64.here hx (hb hby d_prog_21_method_2_code_113) ?_
    show Steps p.tables e below (T64.setTop (mkF m 114 #[.val (.ref a1), .val (.int (own_mb (0 : Int32) (own_blk x0 x1 x2 x3))), .val (.int 4), .val (.int (own_t1 x5)), .val (.int 4)] [(.int (own_t2 x4 x5))])) _
    refine own_istoreN X64.here hx (hb hby d_prog_21_method_2_code_114) (l' := #[.val (.ref a1), .val (.int (own_mb (0 : Int32) (own_blk x0 x1 x2 x3))), .val (.int 4), .val (.int (own_t2 x4 x5)), .val (.int 4)]) rfl ?_
    refine own_iinc X64.here hx (-1 : Int32) (hb hby d_prog_21_method_2_code_115) rfl rfl (l' := #[.val (.ref a1), .val (.int (own_mb (0 : Int32) (own_blk x0 x1 x2 x3))), .val (.int 4), .val (.int (own_t2 x4 x5)), .val (.int 3)]) rfl ?_
    refine own_goto X64.here hx 118 95 rfl (hb hby d_prog_21_method_2_code_118) (by decide) (by decide) ?_
    refine own_iload X64.here hx (hb hby d_prog_21_method_2_code_95) rfl ?_
    refine own_iloadN X64.here hx (hb hby d_prog_21_method_2_code_97) rfl ?_
    refine own_icmpYes X64.here hx 98 121 rfl (hb hby d_prog_21_method_2_code_98) (tlt (by decide : (3 : Int32) < (4 : Int32))).1 (by decide) (by decide) ?_
    refine own_iloadN X64.here hx (hb hby d_prog_21_method_2_code_121) rfl ?_
    refine own_iloadN X64.here hx (hb hby d_prog_21_method_2_code_122) rfl ?_
    refine st68 _ ?_
    show Steps p.tables e below (T68.setTop (mkF m 126 #[.val (.ref a1), .val (.int (own_mb (0 : Int32) (own_blk x0 x1 x2 x3))), .val (.int 4), .val (.int (own_t2 x4 x5)), .val (.int 3)] [(.int (own_scr (own_t2 x4 x5))), (.int (own_mb (0 : Int32) (own_blk x0 x1 x2 x3)))])) _
    refine own_ixor X68.here hx (hb hby d_prog_21_method_2_code_126) ?_
    refine own_istoreN X68.here hx (hb hby d_prog_21_method_2_code_127) (l' := #[.val (.ref a1), .val (.int ((own_mb (0 : Int32) (own_blk x0 x1 x2 x3)) ^^^ (own_scr (own_t2 x4 x5)))), .val (.int 4), .val (.int (own_t2 x4 x5)), .val (.int 3)]) rfl ?_
    refine own_iloadN X68.here hx (hb hby d_prog_21_method_2_code_128) rfl ?_
    refine own_aloadN X68.here hx (hb hby d_prog_21_method_2_code_129) rfl rfl ?_
    refine X68.arraylength hx (by rw [e68]; exact Ar69.1) (State.isArrayOf_alike hZ.alike Ar69.2.1) (g := (mkF m 130 #[.val (.ref a1), .val (.int ((own_mb (0 : Int32) (own_blk x0 x1 x2 x3)) ^^^ (own_scr (own_t2 x4 x5)))), .val (.int 4), .val (.int (own_t2 x4 x5)), .val (.int 3)] [(.ref a1), (.int ((own_mb (0 : Int32) (own_blk x0 x1 x2 x3)) ^^^ (own_scr (own_t2 x4 x5))))])) rfl rfl (hb hby d_prog_21_method_2_code_130) _ ?_
    rw [len_of S69 M69]
    show Steps p.tables e below (T68.setTop (mkF m 131 #[.val (.ref a1), .val (.int ((own_mb (0 : Int32) (own_blk x0 x1 x2 x3)) ^^^ (own_scr (own_t2 x4 x5)))), .val (.int 4), .val (.int (own_t2 x4 x5)), .val (.int 3)] [(.int 6), (.int ((own_mb (0 : Int32) (own_blk x0 x1 x2 x3)) ^^^ (own_scr (own_t2 x4 x5))))])) _
    refine own_ixor X68.here hx (hb hby d_prog_21_method_2_code_131) ?_
    refine own_istoreN X68.here hx (hb hby d_prog_21_method_2_code_132) (l' := #[.val (.ref a1), .val (.int (((own_mb (0 : Int32) (own_blk x0 x1 x2 x3)) ^^^ (own_scr (own_t2 x4 x5))) ^^^ (6 : Int32))), .val (.int 4), .val (.int (own_t2 x4 x5)), .val (.int 3)]) rfl ?_
    refine own_iloadN X68.here hx (hb hby d_prog_21_method_2_code_133) rfl ?_
    refine st70 _ ?_
    show Steps p.tables e below (T70.setTop (mkF m 137 #[.val (.ref a1), .val (.int (((own_mb (0 : Int32) (own_blk x0 x1 x2 x3)) ^^^ (own_scr (own_t2 x4 x5))) ^^^ (6 : Int32))), .val (.int 4), .val (.int (own_t2 x4 x5)), .val (.int 3)] [(.int (own_fin (((own_mb (0 : Int32) (own_blk x0 x1 x2 x3)) ^^^ (own_scr (own_t2 x4 x5))) ^^^ (6 : Int32))))])) _
    exact retI X70 hx Bd.returns (hb hby d_prog_21_method_2_code_137) hr
  · show QH_6 Z a1 k1 x0 x1 x2 x3 x4 x5 h0 n0 _ T70.heap _
    rw [e70]
    exact ⟨rfl, N70, rfl⟩
theorem ef_rmH_7 (m : MethodId) (x0 : Addr) : entryFrame m #[(.ref x0)] 5 = mkF m 0 #[.val (.ref x0), .unset, .unset, .unset, .unset] [] := by first | (simp [entryFrame, mkF, argsToLocals, Value.category]; done) | rfl
def QH_7 (Z : State) (a1 : Addr) (k1 : ClassId) (x0 : Int32) (x1 : Int32) (x2 : Int32) (x3 : Int32) (x4 : Int32) (x5 : Int32) (x6 : Int32) (h0 : Heap) (n0 : Nat) (v : Option Value) (h : Heap) (L : List Loc) : Prop := v = some (.int (own_fin (((own_mb (0 : Int32) (own_blk x0 x1 x2 x3)) ^^^ (own_scr (own_t3 x4 x5 x6))) ^^^ (7 : Int32)))) ∧ Fr n0 L ∧ h = h0
set_option maxRecDepth 65536 in
set_option maxHeartbeats 40000000 in
theorem rmH_7 (l : Launch) (Z : State) (a0 : Array Value) (hw : ∀ d ∈ tables_1, d.before a0 Z = true) (ws : List Jvm.Cond) (a1 : Addr) (k1 : ClassId) (x0 : Int32) (x1 : Int32) (x2 : Int32) (x3 : Int32) (x4 : Int32) (x5 : Int32) (x6 : Int32) (h0 : Heap) (n0 : Nat) (Z0 : n0 ≤ h0.size) (V1 : Arv Z h0 a1 k1 .byte (7 : Int32) [(.int x0), (.int x1), (.int x2), (.int x3), (.int x4), (.int x5), (.int x6)] (.int (0 : Int32))) :
    MetFree l (⟨"com/example/forkline/forkline/bucketing/MurmurHash3", "hash32", "([B)I"⟩ : MethodName) (head1 (Jvm.Cond.code (⟨"com/example/forkline/forkline/bucketing/MurmurHash3", "hash32", "([B)I"⟩ : MethodName) prog_21_method_2_code 5 (some .int) :: ws) ({ frames := 2, cells := 0, slots := 0, locals := 26 } : Room)) (fun a U => a = #[(.ref a1)] ∧ Z.Warmed39 U.vm ∧ U.heap = h0) (fun _ _ _ _ _ => True) (fun _ U o U' => ∃ v L, o = .returned v ∧ QH_7 Z a1 k1 x0 x1 x2 x3 x4 x5 x6 h0 n0 v U'.heap L ∧ FrameEnd U o U' L ({ frames := 2, cells := 0, slots := 0, locals := 26 } : Room).cells ({ frames := 2, cells := 0, slots := 0, locals := 26 } : Room).slots) := by
  refine MetFree.of_bodySF (plainFor_of_name pn_com_example_forkline_forkline_bucketing_MurmurHash3) hisR ?_
  intro p e s m args below meth c s₁ Bd hml0 hP hK
  obtain ⟨rfl, hZ, hh⟩ := hP
  have hx := Bd.exec
  have hby := Bd.bytes
  have hml : c.maxLocals = 5 := hml0
  have hown : s.vm.findClass "com/example/forkline/forkline/bucketing/MurmurHash3" = some m.cls := findClass_of_methodNamed Bd.named
  have hnm := (name_of_methodNamed Bd.named Bd.method).1
  have X0 : Stand p l e ({ frames := 2, cells := 0, slots := 0, locals := 26 } : Room) s m #[(.ref a1)] below meth c s₁ [] 0 0 := Stand.of_body Bd
  have e0 : s₁.heap = h0 := by rw [← hh, Bd.state]; rfl
  have N0 := Fr.nil n0
  have pre0 : ∀ tG, Steps p.tables e below (s₁.setTop (mkF m 0 #[.val (.ref a1), .unset, .unset, .unset, .unset] [])) tG → Steps p.tables e below (s₁.setTop (entryFrame m #[(.ref a1)] 5)) tG := fun tG kG => castTop (ef_rmH_7 m a1) kG
  obtain ⟨cl71, Ar71, -, S71, M71, -, -⟩ := id V1
  obtain ⟨cl72, Ar72, -, S72, M72, -, -⟩ := id V1
  obtain ⟨cl73, Ar73, q73, S73, M73, H73, J73⟩ := id V1
  have hin73 : ¬ ((0 : Int32) < 0 ∨ cl73.slots.size ≤ ((0 : Int32)).toNatClampNeg) := inb_of S73 ⟨by decide, by decide⟩
  have hat73 : cl73.slots[((0 : Int32)).toNatClampNeg]? = some (.int x0) := Has.at H73 hin73 rfl
  obtain ⟨cl74, Ar74, q74, S74, M74, H74, J74⟩ := id V1
  have hin74 : ¬ ((1 : Int32) < 0 ∨ cl74.slots.size ≤ ((1 : Int32)).toNatClampNeg) := inb_of S74 ⟨by decide, by decide⟩
  have hat74 : cl74.slots[((1 : Int32)).toNatClampNeg]? = some (.int x1) := Has.at H74 hin74 rfl
  obtain ⟨cl75, Ar75, q75, S75, M75, H75, J75⟩ := id V1
  have hin75 : ¬ ((2 : Int32) < 0 ∨ cl75.slots.size ≤ ((2 : Int32)).toNatClampNeg) := inb_of S75 ⟨by decide, by decide⟩
  have hat75 : cl75.slots[((2 : Int32)).toNatClampNeg]? = some (.int x2) := Has.at H75 hin75 rfl
  obtain ⟨cl76, Ar76, q76, S76, M76, H76, J76⟩ := id V1
  have hin76 : ¬ ((3 : Int32) < 0 ∨ cl76.slots.size ≤ ((3 : Int32)).toNatClampNeg) := inb_of S76 ⟨by decide, by decide⟩
  have hat76 : cl76.slots[((3 : Int32)).toNatClampNeg]? = some (.int x3) := Has.at H76 hin76 rfl
  obtain ⟨_, _, ⟨T77, L77, k77, n77⟩, -, X77, ⟨Lc77, hQ77, l77, y77, z77⟩, st77⟩ := Jvm.LawKit.callS X0 hx (y := (⟨"com/example/forkline/forkline/bucketing/MurmurHash3", "scramble", "(I)I"⟩ : MethodName)) hown (mvT hZ (hw _ (List.mem_of_getElem? (i := 8) rfl))) (mvT hZ (hw _ (List.mem_of_getElem? (i := 9) rfl))) (mvT hZ (hw _ (List.mem_of_getElem? (i := 6) rfl))) (mvT hZ (hw _ (List.mem_of_getElem? (i := 10) rfl))) (by decide) (backOf (W := 1) (rm2 l Z a0 hw [] (own_blk x0 x1 x2 x3) h0 n0 Z0) hZ (hw _ (List.mem_of_getElem? (i := 10) rfl)) (hw _ (List.mem_of_getElem? (i := 6) rfl)) (by decide) (by decide)) (g := (mkF m 64 #[.val (.ref a1), .val (.int 0), .val (.int 4), .val (.int 0), .val (.int (own_blk x0 x1 x2 x3))] [(.int (own_blk x0 x1 x2 x3)), (.int 0)])) rfl (by rw [hml]; rfl) (argsL := [(.int (own_blk x0 x1 x2 x3))]) (rest := [(.int 0)]) (lenOf pd_28I29I rfl) rfl (by show 2 * 0 + _ ≤ _; exact Nat.le_of_eq rfl) (hb hby d_prog_21_method_2_code_64) (fun _ _ => ⟨rfl, e0, (by decide : 0 + 0 ≤ _), (by decide : 0 + 0 ≤ _)⟩)
  dsimp only [Pt.U, Pt.locs, Pt.cells, Pt.slots] at X77 l77 y77 z77 st77 hQ77
  subst l77 y77 z77
  obtain ⟨rfl, N77q, e77⟩ := hQ77
  have N77 := Fr.app N0 N77q
  obtain ⟨_, _, ⟨T78, L78, k78, n78⟩, -, X78, ⟨Lc78, hQ78, l78, y78, z78⟩, st78⟩ := Jvm.LawKit.callS X77 hx (y := (⟨"java/lang/Integer", "rotateLeft", "(II)I"⟩ : MethodName)) hown (mvT hZ (hw _ (List.mem_of_getElem? (i := 12) rfl))) (mvT hZ (hw _ (List.mem_of_getElem? (i := 13) rfl))) (mvT hZ (hw _ (List.mem_of_getElem? (i := 14) rfl))) (mvT hZ (hw _ (List.mem_of_getElem? (i := 15) rfl))) (by decide) (backOf (W := 0) (rm1 l Z a0 hw [] ((0 : Int32) ^^^ (own_scr (own_blk x0 x1 x2 x3))) (13 : Int32) h0 n0 Z0) hZ (hw _ (List.mem_of_getElem? (i := 15) rfl)) (hw _ (List.mem_of_getElem? (i := 14) rfl)) (by decide) (by decide)) (g := (mkF m 72 #[.val (.ref a1), .val (.int ((0 : Int32) ^^^ (own_scr (own_blk x0 x1 x2 x3)))), .val (.int 4), .val (.int 0), .val (.int (own_blk x0 x1 x2 x3))] [(.int 13), (.int ((0 : Int32) ^^^ (own_scr (own_blk x0 x1 x2 x3))))])) rfl (by rw [hml]; rfl) (argsL := [(.int ((0 : Int32) ^^^ (own_scr (own_blk x0 x1 x2 x3)))), (.int 13)]) (rest := []) (lenOf pd_28II29I rfl) rfl (by show 2 * 0 + _ ≤ _; exact Nat.le_of_eq rfl) (hb hby d_prog_21_method_2_code_72) (fun _ _ => ⟨rfl, e77, (by decide : 0 + 0 ≤ _), (by decide : 0 + 0 ≤ _)⟩)
  dsimp only [Pt.U, Pt.locs, Pt.cells, Pt.slots] at X78 l78 y78 z78 st78 hQ78
  subst l78 y78 z78
  obtain ⟨rfl, N78q, e78⟩ := hQ78
  have N78 := Fr.app N77 N78q
  obtain ⟨cl79, Ar79, -, S79, M79, -, -⟩ := id V1
  obtain ⟨cl80, Ar80, q80, S80, M80, H80, J80⟩ := id V1
  have hin80 : ¬ ((6 : Int32) < 0 ∨ cl80.slots.size ≤ ((6 : Int32)).toNatClampNeg) := inb_of S80 ⟨by decide, by decide⟩
  have hat80 : cl80.slots[((6 : Int32)).toNatClampNeg]? = some (.int x6) := Has.at H80 hin80 rfl
  obtain ⟨cl81, Ar81, q81, S81, M81, H81, J81⟩ := id V1
  have hin81 : ¬ ((5 : Int32) < 0 ∨ cl81.slots.size ≤ ((5 : Int32)).toNatClampNeg) := inb_of S81 ⟨by decide, by decide⟩
  have hat81 : cl81.slots[((5 : Int32)).toNatClampNeg]? = some (.int x5) := Has.at H81 hin81 rfl
  obtain ⟨cl82, Ar82, q82, S82, M82, H82, J82⟩ := id V1
  have hin82 : ¬ ((4 : Int32) < 0 ∨ cl82.slots.size ≤ ((4 : Int32)).toNatClampNeg) := inb_of S82 ⟨by decide, by decide⟩
  have hat82 : cl82.slots[((4 : Int32)).toNatClampNeg]? = some (.int x4) := Has.at H82 hin82 rfl
  obtain ⟨_, _, ⟨T83, L83, k83, n83⟩, -, X83, ⟨Lc83, hQ83, l83, y83, z83⟩, st83⟩ := Jvm.LawKit.callS X78 hx (y := (⟨"com/example/forkline/forkline/bucketing/MurmurHash3", "scramble", "(I)I"⟩ : MethodName)) hown (mvT hZ (hw _ (List.mem_of_getElem? (i := 8) rfl))) (mvT hZ (hw _ (List.mem_of_getElem? (i := 9) rfl))) (mvT hZ (hw _ (List.mem_of_getElem? (i := 6) rfl))) (mvT hZ (hw _ (List.mem_of_getElem? (i := 10) rfl))) (by decide) (backOf (W := 1) (rm2 l Z a0 hw [] (own_t3 x4 x5 x6) h0 n0 Z0) hZ (hw _ (List.mem_of_getElem? (i := 10) rfl)) (hw _ (List.mem_of_getElem? (i := 6) rfl)) (by decide) (by decide)) (g := (mkF m 123 #[.val (.ref a1), .val (.int (own_mb (0 : Int32) (own_blk x0 x1 x2 x3))), .val (.int 4), .val (.int (own_t3 x4 x5 x6)), .val (.int 3)] [(.int (own_t3 x4 x5 x6)), (.int (own_mb (0 : Int32) (own_blk x0 x1 x2 x3)))])) rfl (by rw [hml]; rfl) (argsL := [(.int (own_t3 x4 x5 x6))]) (rest := [(.int (own_mb (0 : Int32) (own_blk x0 x1 x2 x3)))]) (lenOf pd_28I29I rfl) rfl (by show 2 * 0 + _ ≤ _; exact Nat.le_of_eq rfl) (hb hby d_prog_21_method_2_code_123) (fun _ _ => ⟨rfl, e78, (by decide : 0 + 0 ≤ _), (by decide : 0 + 0 ≤ _)⟩)
  dsimp only [Pt.U, Pt.locs, Pt.cells, Pt.slots] at X83 l83 y83 z83 st83 hQ83
  subst l83 y83 z83
  obtain ⟨rfl, N83q, e83⟩ := hQ83
  have N83 := Fr.app N78 N83q
  obtain ⟨cl84, Ar84, -, S84, M84, -, -⟩ := id V1
  obtain ⟨_, _, ⟨T85, L85, k85, n85⟩, -, X85, ⟨Lc85, hQ85, l85, y85, z85⟩, st85⟩ := Jvm.LawKit.callS X83 hx (y := (⟨"com/example/forkline/forkline/bucketing/MurmurHash3", "finalMix", "(I)I"⟩ : MethodName)) hown (mvT hZ (hw _ (List.mem_of_getElem? (i := 17) rfl))) (mvT hZ (hw _ (List.mem_of_getElem? (i := 18) rfl))) (mvT hZ (hw _ (List.mem_of_getElem? (i := 6) rfl))) (mvT hZ (hw _ (List.mem_of_getElem? (i := 19) rfl))) (by decide) (backOf (W := 0) (rm3 l Z a0 hw [] (((own_mb (0 : Int32) (own_blk x0 x1 x2 x3)) ^^^ (own_scr (own_t3 x4 x5 x6))) ^^^ (7 : Int32)) h0 n0 Z0) hZ (hw _ (List.mem_of_getElem? (i := 19) rfl)) (hw _ (List.mem_of_getElem? (i := 6) rfl)) (by decide) (by decide)) (g := (mkF m 134 #[.val (.ref a1), .val (.int (((own_mb (0 : Int32) (own_blk x0 x1 x2 x3)) ^^^ (own_scr (own_t3 x4 x5 x6))) ^^^ (7 : Int32))), .val (.int 4), .val (.int (own_t3 x4 x5 x6)), .val (.int 3)] [(.int (((own_mb (0 : Int32) (own_blk x0 x1 x2 x3)) ^^^ (own_scr (own_t3 x4 x5 x6))) ^^^ (7 : Int32)))])) rfl (by rw [hml]; rfl) (argsL := [(.int (((own_mb (0 : Int32) (own_blk x0 x1 x2 x3)) ^^^ (own_scr (own_t3 x4 x5 x6))) ^^^ (7 : Int32)))]) (rest := []) (lenOf pd_28I29I rfl) rfl (by show 2 * 0 + _ ≤ _; exact Nat.le_of_eq rfl) (hb hby d_prog_21_method_2_code_134) (fun _ _ => ⟨rfl, e83, (by decide : 0 + 0 ≤ _), (by decide : 0 + 0 ≤ _)⟩)
  dsimp only [Pt.U, Pt.locs, Pt.cells, Pt.slots] at X85 l85 y85 z85 st85 hQ85
  subst l85 y85 z85
  obtain ⟨rfl, N85q, e85⟩ := hQ85
  have N85 := Fr.app N83 N85q
  obtain ⟨fs, hr, hrun, hended, hW, hsame⟩ := X85.leave (v := some (.int (own_fin (((own_mb (0 : Int32) (own_blk x0 x1 x2 x3)) ^^^ (own_scr (own_t3 x4 x5 x6))) ^^^ (7 : Int32))))) (fun h => by rw [Bd.returns] at h; cases h)
  refine ⟨_, _, pre0 _ ?_, hrun, hended, _, _, rfl, ?_, ⟨_, rfl⟩, hW, hsame.mono (by decide) (by decide)⟩
  · refine own_iconst X0.here hx (0 : Int32) (hb hby d_prog_21_method_2_code_0) rfl ?_
    refine own_istoreN X0.here hx (hb hby d_prog_21_method_2_code_1) (l' := #[.val (.ref a1), .val (.int 0), .unset, .unset, .unset]) rfl ?_
    refine own_aloadN X0.here hx (hb hby d_prog_21_method_2_code_2) rfl rfl ?_
    refine X0.arraylength hx (by rw [e0]; exact Ar71.1) (State.isArrayOf_alike hZ.alike Ar71.2.1) (g := (mkF m 3 #[.val (.ref a1), .val (.int 0), .unset, .unset, .unset] [(.ref a1)])) rfl rfl (hb hby d_prog_21_method_2_code_3) _ ?_
    rw [len_of S71 M71]
    show Steps p.tables e below (s₁.setTop (mkF m 4 #[.val (.ref a1), .val (.int 0), .unset, .unset, .unset] [(.int 7)])) _
    refine own_aloadN X0.here hx (hb hby d_prog_21_method_2_code_4) rfl rfl ?_
    refine X0.arraylength hx (by rw [e0]; exact Ar72.1) (State.isArrayOf_alike hZ.alike Ar72.2.1) (g := (mkF m 5 #[.val (.ref a1), .val (.int 0), .unset, .unset, .unset] [(.ref a1), (.int 7)])) rfl rfl (hb hby d_prog_21_method_2_code_5) _ ?_
    rw [len_of S72 M72]
    show Steps p.tables e below (s₁.setTop (mkF m 6 #[.val (.ref a1), .val (.int 0), .unset, .unset, .unset] [(.int 7), (.int 7)])) _
    refine own_iconst X0.here hx (4 : Int32) (hb hby d_prog_21_method_2_code_6) rfl ?_
    refine own_irem X0.here hx (hb hby d_prog_21_method_2_code_7) (by decide) ?_
    show Steps p.tables e below (s₁.setTop (mkF m 8 #[.val (.ref a1), .val (.int 0), .unset, .unset, .unset] [(.int 3), (.int 7)])) _
    refine own_isub X0.here hx (hb hby d_prog_21_method_2_code_8) ?_
    show Steps p.tables e below (s₁.setTop (mkF m 9 #[.val (.ref a1), .val (.int 0), .unset, .unset, .unset] [(.int 4)])) _
    refine own_istoreN X0.here hx (hb hby d_prog_21_method_2_code_9) (l' := #[.val (.ref a1), .val (.int 0), .val (.int 4), .unset, .unset]) rfl ?_
    refine own_iconst X0.here hx (0 : Int32) (hb hby d_prog_21_method_2_code_10) rfl ?_
    refine own_istoreN X0.here hx (hb hby d_prog_21_method_2_code_11) (l' := #[.val (.ref a1), .val (.int 0), .val (.int 4), .val (.int 0), .unset]) rfl ?_
    refine own_iloadN X0.here hx (hb hby d_prog_21_method_2_code_12) rfl ?_
    refine own_iloadN X0.here hx (hb hby d_prog_21_method_2_code_13) rfl ?_
    refine own_icmpNo X0.here hx (hb hby d_prog_21_method_2_code_14) (tlt (by decide : (0 : Int32) < (4 : Int32))).2.1 ?_
    refine own_aloadN X0.here hx (hb hby d_prog_21_method_2_code_17) rfl rfl ?_
    refine own_iloadN X0.here hx (hb hby d_prog_21_method_2_code_18) rfl ?_
    refine X0.baloadBytes hx (j := (0 : Int32)) (v := (.int x0)) (by rw [e0]; exact Ar73.1) (State.isArrayOf_alike hZ.alike Ar73.2.1) Ar73.2.2 hin73 hat73 (g := (mkF m 19 #[.val (.ref a1), .val (.int 0), .val (.int 4), .val (.int 0), .unset] [(.int 0), (.ref a1)])) rfl rfl (hb hby d_prog_21_method_2_code_19) _ ?_
    show Steps p.tables e below (s₁.setTop (mkF m 20 #[.val (.ref a1), .val (.int 0), .val (.int 4), .val (.int 0), .unset] [(.int x0)])) _
    refine own_sipush X0.here hx (255 : Int32) (hb hby d_prog_21_method_2_code_20) rfl ?_
    refine own_iand X0.here hx (hb hby d_prog_21_method_2_code_23) ?_
    refine own_aloadN X0.here hx (hb hby d_prog_21_method_2_code_24) rfl rfl ?_
    refine own_iloadN X0.here hx (hb hby d_prog_21_method_2_code_25) rfl ?_
    refine own_iconst X0.here hx (1 : Int32) (hb hby d_prog_21_method_2_code_26) rfl ?_
    refine own_iadd X0.here hx (hb hby d_prog_21_method_2_code_27) ?_
    show Steps p.tables e below (s₁.setTop (mkF m 28 #[.val (.ref a1), .val (.int 0), .val (.int 4), .val (.int 0), .unset] [(.int 1), (.ref a1), (.int (x0 &&& (255 : Int32)))])) _
    refine X0.baloadBytes hx (j := (1 : Int32)) (v := (.int x1)) (by rw [e0]; exact Ar74.1) (State.isArrayOf_alike hZ.alike Ar74.2.1) Ar74.2.2 hin74 hat74 (g := (mkF m 28 #[.val (.ref a1), .val (.int 0), .val (.int 4), .val (.int 0), .unset] [(.int 1), (.ref a1), (.int (x0 &&& (255 : Int32)))])) rfl rfl (hb hby d_prog_21_method_2_code_28) _ ?_
    show Steps p.tables e below (s₁.setTop (mkF m 29 #[.val (.ref a1), .val (.int 0), .val (.int 4), .val (.int 0), .unset] [(.int x1), (.int (x0 &&& (255 : Int32)))])) _
    refine own_sipush X0.here hx (255 : Int32) (hb hby d_prog_21_method_2_code_29) rfl ?_
    refine own_iand X0.here hx (hb hby d_prog_21_method_2_code_32) ?_
    refine own_bipush X0.here hx (8 : Int32) (hb hby d_prog_21_method_2_code_33) rfl ?_
    refine own_ishl X0.here hx (hb hby d_prog_21_method_2_code_35) ?_
    refine own_ior X0.here hx (hb hby d_prog_21_method_2_code_36) ?_
    refine own_aloadN X0.here hx (hb hby d_prog_21_method_2_code_37) rfl rfl ?_
    refine own_iloadN X0.here hx (hb hby d_prog_21_method_2_code_38) rfl ?_
    refine own_iconst X0.here hx (2 : Int32) (hb hby d_prog_21_method_2_code_39) rfl ?_
    refine own_iadd X0.here hx (hb hby d_prog_21_method_2_code_40) ?_
    show Steps p.tables e below (s₁.setTop (mkF m 41 #[.val (.ref a1), .val (.int 0), .val (.int 4), .val (.int 0), .unset] [(.int 2), (.ref a1), (.int ((x0 &&& (255 : Int32)) ||| ((x1 &&& (255 : Int32)) <<< ((8 : Int32) &&& 31))))])) _
    refine X0.baloadBytes hx (j := (2 : Int32)) (v := (.int x2)) (by rw [e0]; exact Ar75.1) (State.isArrayOf_alike hZ.alike Ar75.2.1) Ar75.2.2 hin75 hat75 (g := (mkF m 41 #[.val (.ref a1), .val (.int 0), .val (.int 4), .val (.int 0), .unset] [(.int 2), (.ref a1), (.int ((x0 &&& (255 : Int32)) ||| ((x1 &&& (255 : Int32)) <<< ((8 : Int32) &&& 31))))])) rfl rfl (hb hby d_prog_21_method_2_code_41) _ ?_
    show Steps p.tables e below (s₁.setTop (mkF m 42 #[.val (.ref a1), .val (.int 0), .val (.int 4), .val (.int 0), .unset] [(.int x2), (.int ((x0 &&& (255 : Int32)) ||| ((x1 &&& (255 : Int32)) <<< ((8 : Int32) &&& 31))))])) _
    refine own_sipush X0.here hx (255 : Int32) (hb hby d_prog_21_method_2_code_42) rfl ?_
    refine own_iand X0.here hx (hb hby d_prog_21_method_2_code_45) ?_
    refine own_bipush X0.here hx (16 : Int32) (hb hby d_prog_21_method_2_code_46) rfl ?_
    refine own_ishl X0.here hx (hb hby d_prog_21_method_2_code_48) ?_
    refine own_ior X0.here hx (hb hby d_prog_21_method_2_code_49) ?_
    refine own_aloadN X0.here hx (hb hby d_prog_21_method_2_code_50) rfl rfl ?_
    refine own_iloadN X0.here hx (hb hby d_prog_21_method_2_code_51) rfl ?_
    refine own_iconst X0.here hx (3 : Int32) (hb hby d_prog_21_method_2_code_52) rfl ?_
    refine own_iadd X0.here hx (hb hby d_prog_21_method_2_code_53) ?_
    show Steps p.tables e below (s₁.setTop (mkF m 54 #[.val (.ref a1), .val (.int 0), .val (.int 4), .val (.int 0), .unset] [(.int 3), (.ref a1), (.int (((x0 &&& (255 : Int32)) ||| ((x1 &&& (255 : Int32)) <<< ((8 : Int32) &&& 31))) ||| ((x2 &&& (255 : Int32)) <<< ((16 : Int32) &&& 31))))])) _
    refine X0.baloadBytes hx (j := (3 : Int32)) (v := (.int x3)) (by rw [e0]; exact Ar76.1) (State.isArrayOf_alike hZ.alike Ar76.2.1) Ar76.2.2 hin76 hat76 (g := (mkF m 54 #[.val (.ref a1), .val (.int 0), .val (.int 4), .val (.int 0), .unset] [(.int 3), (.ref a1), (.int (((x0 &&& (255 : Int32)) ||| ((x1 &&& (255 : Int32)) <<< ((8 : Int32) &&& 31))) ||| ((x2 &&& (255 : Int32)) <<< ((16 : Int32) &&& 31))))])) rfl rfl (hb hby d_prog_21_method_2_code_54) _ ?_
    show Steps p.tables e below (s₁.setTop (mkF m 55 #[.val (.ref a1), .val (.int 0), .val (.int 4), .val (.int 0), .unset] [(.int x3), (.int (((x0 &&& (255 : Int32)) ||| ((x1 &&& (255 : Int32)) <<< ((8 : Int32) &&& 31))) ||| ((x2 &&& (255 : Int32)) <<< ((16 : Int32) &&& 31))))])) _
    refine own_bipush X0.here hx (24 : Int32) (hb hby d_prog_21_method_2_code_55) rfl ?_
    refine own_ishl X0.here hx (hb hby d_prog_21_method_2_code_57) ?_
    refine own_ior X0.here hx (hb hby d_prog_21_method_2_code_58) ?_
    show Steps p.tables e below (s₁.setTop (mkF m 59 #[.val (.ref a1), .val (.int 0), .val (.int 4), .val (.int 0), .unset] [(.int (own_blk x0 x1 x2 x3))])) _
    refine own_istore X0.here hx (hb hby d_prog_21_method_2_code_59) (l' := #[.val (.ref a1), .val (.int 0), .val (.int 4), .val (.int 0), .val (.int (own_blk x0 x1 x2 x3))]) rfl ?_
    refine own_iloadN X0.here hx (hb hby d_prog_21_method_2_code_61) rfl ?_
    refine own_iload X0.here hx (hb hby d_prog_21_method_2_code_62) rfl ?_
    refine st77 _ ?_
    show Steps p.tables e below (T77.setTop (mkF m 67 #[.val (.ref a1), .val (.int 0), .val (.int 4), .val (.int 0), .val (.int (own_blk x0 x1 x2 x3))] [(.int (own_scr (own_blk x0 x1 x2 x3))), (.int 0)])) _
    refine own_ixor X77.here hx (hb hby d_prog_21_method_2_code_67) ?_
    refine own_istoreN X77.here hx (hb hby d_prog_21_method_2_code_68) (l' := #[.val (.ref a1), .val (.int ((0 : Int32) ^^^ (own_scr (own_blk x0 x1 x2 x3)))), .val (.int 4), .val (.int 0), .val (.int (own_blk x0 x1 x2 x3))]) rfl ?_
    refine own_iloadN X77.here hx (hb hby d_prog_21_method_2_code_69) rfl ?_
    refine own_bipush X77.here hx (13 : Int32) (hb hby d_prog_21_method_2_code_70) rfl ?_
    refine st78 _ ?_
    show Steps p.tables e below (T78.setTop (mkF m 75 #[.val (.ref a1), .val (.int ((0 : Int32) ^^^ (own_scr (own_blk x0 x1 x2 x3)))), .val (.int 4), .val (.int 0), .val (.int (own_blk x0 x1 x2 x3))] [(.int (own_rotl ((0 : Int32) ^^^ (own_scr (own_blk x0 x1 x2 x3))) (13 : Int32)))])) _
    refine own_iconst X78.here hx (5 : Int32) (hb hby d_prog_21_method_2_code_75) rfl ?_
    refine own_imul X78.here hx (hb hby d_prog_21_method_2_code_76) ?_
    refine X78.ldcInt hx hown (mvT hZ (hw _ (List.mem_of_getElem? (i := 29) rfl))) (g := (mkF m 77 #[.val (.ref a1), .val (.int ((0 : Int32) ^^^ (own_scr (own_blk x0 x1 x2 x3)))), .val (.int 4), .val (.int 0), .val (.int (own_blk x0 x1 x2 x3))] [(.int ((own_rotl ((0 : Int32) ^^^ (own_scr (own_blk x0 x1 x2 x3))) (13 : Int32)) * (5 : Int32)))])) rfl (hb hby d_prog_21_method_2_code_77) _ ?_
    show Steps p.tables e below (T78.setTop (mkF m 79 #[.val (.ref a1), .val (.int ((0 : Int32) ^^^ (own_scr (own_blk x0 x1 x2 x3)))), .val (.int 4), .val (.int 0), .val (.int (own_blk x0 x1 x2 x3))] [(.int (-430675100)), (.int ((own_rotl ((0 : Int32) ^^^ (own_scr (own_blk x0 x1 x2 x3))) (13 : Int32)) * (5 : Int32)))])) _
    refine own_iadd X78.here hx (hb hby d_prog_21_method_2_code_79) ?_
    show Steps p.tables e below (T78.setTop (mkF m 80 #[.val (.ref a1), .val (.int ((0 : Int32) ^^^ (own_scr (own_blk x0 x1 x2 x3)))), .val (.int 4), .val (.int 0), .val (.int (own_blk x0 x1 x2 x3))] [(.int (own_mb (0 : Int32) (own_blk x0 x1 x2 x3)))])) _
    refine own_istoreN X78.here hx (hb hby d_prog_21_method_2_code_80) (l' := #[.val (.ref a1), .val (.int (own_mb (0 : Int32) (own_blk x0 x1 x2 x3))), .val (.int 4), .val (.int 0), .val (.int (own_blk x0 x1 x2 x3))]) rfl ?_
    refine own_iinc X78.here hx (4 : Int32) (hb hby d_prog_21_method_2_code_81) rfl rfl (l' := #[.val (.ref a1), .val (.int (own_mb (0 : Int32) (own_blk x0 x1 x2 x3))), .val (.int 4), .val (.int 4), .val (.int (own_blk x0 x1 x2 x3))]) rfl ?_
    refine own_goto X78.here hx 84 12 rfl (hb hby d_prog_21_method_2_code_84) (by decide) (by decide) ?_
    refine own_iloadN X78.here hx (hb hby d_prog_21_method_2_code_12) rfl ?_
    refine own_iloadN X78.here hx (hb hby d_prog_21_method_2_code_13) rfl ?_
    refine own_icmpYes X78.here hx 14 87 rfl (hb hby d_prog_21_method_2_code_14) (flt (by decide : ¬ ((4 : Int32) < (4 : Int32)))).2.1 (by decide) (by decide) ?_
    refine own_iconst X78.here hx (0 : Int32) (hb hby d_prog_21_method_2_code_87) rfl ?_
    refine own_istoreN X78.here hx (hb hby d_prog_21_method_2_code_88) (l' := #[.val (.ref a1), .val (.int (own_mb (0 : Int32) (own_blk x0 x1 x2 x3))), .val (.int 4), .val (.int 0), .val (.int (own_blk x0 x1 x2 x3))]) rfl ?_
    refine own_aloadN X78.here hx (hb hby d_prog_21_method_2_code_89) rfl rfl ?_
    refine X78.arraylength hx (by rw [e78]; exact Ar79.1) (State.isArrayOf_alike hZ.alike Ar79.2.1) (g := (mkF m 90 #[.val (.ref a1), .val (.int (own_mb (0 : Int32) (own_blk x0 x1 x2 x3))), .val (.int 4), .val (.int 0), .val (.int (own_blk x0 x1 x2 x3))] [(.ref a1)])) rfl rfl (hb hby d_prog_21_method_2_code_90) _ ?_
    rw [len_of S79 M79]
    show Steps p.tables e below (T78.setTop (mkF m 91 #[.val (.ref a1), .val (.int (own_mb (0 : Int32) (own_blk x0 x1 x2 x3))), .val (.int 4), .val (.int 0), .val (.int (own_blk x0 x1 x2 x3))] [(.int 7)])) _
    refine own_iconst X78.here hx (1 : Int32) (hb hby d_prog_21_method_2_code_91) rfl ?_
    refine own_isub X78.here hx (hb hby d_prog_21_method_2_code_92) ?_
    show Steps p.tables e below (T78.setTop (mkF m 93 #[.val (.ref a1), .val (.int (own_mb (0 : Int32) (own_blk x0 x1 x2 x3))), .val (.int 4), .val (.int 0), .val (.int (own_blk x0 x1 x2 x3))] [(.int 6)])) _
    refine own_istore X78.here hx (hb hby d_prog_21_method_2_code_93) (l' := #[.val (.ref a1), .val (.int (own_mb (0 : Int32) (own_blk x0 x1 x2 x3))), .val (.int 4), .val (.int 0), .val (.int 6)]) rfl ?_
    refine own_iload X78.here hx (hb hby d_prog_21_method_2_code_95) rfl ?_
    refine own_iloadN X78.here hx (hb hby d_prog_21_method_2_code_97) rfl ?_
    refine own_icmpNo X78.here hx (hb hby d_prog_21_method_2_code_98) (flt (by decide : ¬ ((6 : Int32) < (4 : Int32)))).1 ?_
    refine own_iloadN X78.here hx (hb hby d_prog_21_method_2_code_101) rfl ?_
    refine own_bipush X78.here hx (8 : Int32) (hb hby d_prog_21_method_2_code_102) rfl ?_
    refine own_ishl X78.here hx (hb hby d_prog_21_method_2_code_104) ?_
    show Steps p.tables e below (T78.setTop (mkF m 105 #[.val (.ref a1), .val (.int (own_mb (0 : Int32) (own_blk x0 x1 x2 x3))), .val (.int 4), .val (.int 0), .val (.int 6)] [(.int 0)])) _
    refine own_aloadN X78.here hx (hb hby d_prog_21_method_2_code_105) rfl rfl ?_
    refine own_iload X78.here hx (hb hby d_prog_21_method_2_code_106) rfl ?_
    refine X78.baloadBytes hx (j := (6 : Int32)) (v := (.int x6)) (by rw [e78]; exact Ar80.1) (State.isArrayOf_alike hZ.alike Ar80.2.1) Ar80.2.2 hin80 hat80 (g := (mkF m 108 #[.val (.ref a1), .val (.int (own_mb (0 : Int32) (own_blk x0 x1 x2 x3))), .val (.int 4), .val (.int 0), .val (.int 6)] [(.int 6), (.ref a1), (.int 0)])) rfl rfl (hb hby d_prog_21_method_2_code_108) _ ?_
    show Steps p.tables e below (T78.setTop (mkF m 109 #[.val (.ref a1), .val (.int (own_mb (0 : Int32) (own_blk x0 x1 x2 x3))), .val (.int 4), .val (.int 0), .val (.int 6)] [(.int x6), (.int 0)])) _
    refine own_sipush X78.here hx (255 : Int32) (hb hby d_prog_21_method_2_code_109) rfl ?_
    refine own_iand X78.here hx (hb hby d_prog_21_method_2_code_112) ?_
    refine own_ior X78.here hx (hb hby d_prog_21_method_2_code_113) ?_
    show Steps p.tables e below (T78.setTop (mkF m 114 #[.val (.ref a1), .val (.int (own_mb (0 : Int32) (own_blk x0 x1 x2 x3))), .val (.int 4), .val (.int 0), .val (.int 6)] [(.int (own_t1 x6))])) _
    refine own_istoreN X78.here hx (hb hby d_prog_21_method_2_code_114) (l' := #[.val (.ref a1), .val (.int (own_mb (0 : Int32) (own_blk x0 x1 x2 x3))), .val (.int 4), .val (.int (own_t1 x6)), .val (.int 6)]) rfl ?_
    refine own_iinc X78.here hx (-1 : Int32) (hb hby d_prog_21_method_2_code_115) rfl rfl (l' := #[.val (.ref a1), .val (.int (own_mb (0 : Int32) (own_blk x0 x1 x2 x3))), .val (.int 4), .val (.int (own_t1 x6)), .val (.int 5)]) rfl ?_
    refine own_goto X78.here hx 118 95 rfl (hb hby d_prog_21_method_2_code_118) (by decide) (by decide) ?_
    refine own_iload X78.here hx (hb hby d_prog_21_method_2_code_95) rfl ?_
    refine own_iloadN X78.here hx (hb hby d_prog_21_method_2_code_97) rfl ?_
    refine own_icmpNo X78.here hx (hb hby d_prog_21_method_2_code_98) (flt (by decide : ¬ ((5 : Int32) < (4 : Int32)))).1 ?_
    refine own_iloadN X78.here hx (hb hby d_prog_21_method_2_code_101) rfl ?_
    refine own_bipush X78.here hx (8 : Int32) (hb hby d_prog_21_method_2_code_102) rfl ?_
    refine own_ishl X78.here hx (hb hby d_prog_21_method_2_code_104) ?_
    refine own_aloadN X78.here hx (hb hby d_prog_21_method_2_code_105) rfl rfl ?_
    refine own_iload X78.here hx (hb hby d_prog_21_method_2_code_106) rfl ?_
    refine X78.baloadBytes hx (j := (5 : Int32)) (v := (.int x5)) (by rw [e78]; exact Ar81.1) (State.isArrayOf_alike hZ.alike Ar81.2.1) Ar81.2.2 hin81 hat81 (g := (mkF m 108 #[.val (.ref a1), .val (.int (own_mb (0 : Int32) (own_blk x0 x1 x2 x3))), .val (.int 4), .val (.int (own_t1 x6)), .val (.int 5)] [(.int 5), (.ref a1), (.int ((own_t1 x6) <<< ((8 : Int32) &&& 31)))])) rfl rfl (hb hby d_prog_21_method_2_code_108) _ ?_
    show Steps p.tables e below (T78.setTop (mkF m 109 #[.val (.ref a1), .val (.int (own_mb (0 : Int32) (own_blk x0 x1 x2 x3))), .val (.int 4), .val (.int (own_t1 x6)), .val (.int 5)] [(.int x5), (.int ((own_t1 x6) <<< ((8 : Int32) &&& 31)))])) _
    refine own_sipush X78.here hx (255 : Int32) (hb hby d_prog_21_method_2_code_109) rfl ?_
    refine own_iand X78.here hx (hb hby d_prog_21_method_2_code_112) ?_
    refine own_ior X78.here hx (hb hby d_prog_21_method_2_code_113) ?_
    show Steps p.tables e below (T78.setTop (mkF m 114 #[.val (.ref a1), .val (.int (own_mb (0 : Int32) (own_blk x0 x1 x2 x3))), .val (.int 4), .val (.int (own_t1 x6)), .val (.int 5)] [(.int (own_t2 x5 x6))])) _
    refine own_istoreN X78.here hx (hb hby d_prog_21_method_2_code_114) (l' := #[.val (.ref a1), .val (.int (own_mb (0 : Int32) (own_blk x0 x1 x2 x3))), .val (.int 4), .val (.int (own_t2 x5 x6)), .val (.int 5)]) rfl ?_
    refine own_iinc X78.here hx (-1 : Int32) (hb hby d_prog_21_method_2_code_115) rfl rfl (l' := #[.val (.ref a1), .val (.int (own_mb (0 : Int32) (own_blk x0 x1 x2 x3))), .val (.int 4), .val (.int (own_t2 x5 x6)), .val (.int 4)]) rfl ?_
    refine own_goto X78.here hx 118 95 rfl (hb hby d_prog_21_method_2_code_118) (by decide) (by decide) ?_
    refine own_iload X78.here hx (hb hby d_prog_21_method_2_code_95) rfl ?_
    refine own_iloadN X78.here hx (hb hby d_prog_21_method_2_code_97) rfl ?_
    refine own_icmpNo X78.here hx (hb hby d_prog_21_method_2_code_98) (flt (by decide : ¬ ((4 : Int32) < (4 : Int32)))).1 ?_
    refine own_iloadN X78.here hx (hb hby d_prog_21_method_2_code_101) rfl ?_
    refine own_bipush X78.here hx (8 : Int32) (hb hby d_prog_21_method_2_code_102) rfl ?_
    refine own_ishl X78.here hx (hb hby d_prog_21_method_2_code_104) ?_
    refine own_aloadN X78.here hx (hb hby d_prog_21_method_2_code_105) rfl rfl ?_
    refine own_iload X78.here hx (hb hby d_prog_21_method_2_code_106) rfl ?_
    refine X78.baloadBytes hx (j := (4 : Int32)) (v := (.int x4)) (by rw [e78]; exact Ar82.1) (State.isArrayOf_alike hZ.alike Ar82.2.1) Ar82.2.2 hin82 hat82 (g := (mkF m 108 #[.val (.ref a1), .val (.int (own_mb (0 : Int32) (own_blk x0 x1 x2 x3))), .val (.int 4), .val (.int (own_t2 x5 x6)), .val (.int 4)] [(.int 4), (.ref a1), (.int ((own_t2 x5 x6) <<< ((8 : Int32) &&& 31)))])) rfl rfl (hb hby d_prog_21_method_2_code_108) _ ?_
    show Steps p.tables e below (T78.setTop (mkF m 109 #[.val (.ref a1), .val (.int (own_mb (0 : Int32) (own_blk x0 x1 x2 x3))), .val (.int 4), .val (.int (own_t2 x5 x6)), .val (.int 4)] [(.int x4), (.int ((own_t2 x5 x6) <<< ((8 : Int32) &&& 31)))])) _
    refine own_sipush X78.here hx (255 : Int32) (hb hby d_prog_21_method_2_code_109) rfl ?_
    refine own_iand X78.here hx (hb hby d_prog_21_method_2_code_112) ?_
    refine own_ior X78.here hx (hb hby d_prog_21_method_2_code_113) ?_
    show Steps p.tables e below (T78.setTop (mkF m 114 #[.val (.ref a1), .val (.int (own_mb (0 : Int32) (own_blk x0 x1 x2 x3))), .val (.int 4), .val (.int (own_t2 x5 x6)), .val (.int 4)] [(.int (own_t3 x4 x5 x6))])) _
    refine own_istoreN X78.here hx (hb hby d_prog_21_method_2_code_114) (l' := #[.val (.ref a1), .val (.int (own_mb (0 : Int32) (own_blk x0 x1 x2 x3))), .val (.int 4), .val (.int (own_t3 x4 x5 x6)), .val (.int 4)]) rfl ?_
    refine own_iinc X78.here hx (-1 : Int32) (hb hby d_prog_21_method_2_code_115) rfl rfl (l' := #[.val (.ref a1), .val (.int (own_mb (0 : Int32) (own_blk x0 x1 x2 x3))), .val (.int 4), .val (.int (own_t3 x4 x5 x6)), .val (.int 3)]) rfl ?_
    refine own_goto X78.here hx 118 95 rfl (hb hby d_prog_21_method_2_code_118) (by decide) (by decide) ?_
    refine own_iload X78.here hx (hb hby d_prog_21_method_2_code_95) rfl ?_
    refine own_iloadN X78.here hx (hb hby d_prog_21_method_2_code_97) rfl ?_
    refine own_icmpYes X78.here hx 98 121 rfl (hb hby d_prog_21_method_2_code_98) (tlt (by decide : (3 : Int32) < (4 : Int32))).1 (by decide) (by decide) ?_
    refine own_iloadN X78.here hx (hb hby d_prog_21_method_2_code_121) rfl ?_
    refine own_iloadN X78.here hx (hb hby d_prog_21_method_2_code_122) rfl ?_
    refine st83 _ ?_
    show Steps p.tables e below (T83.setTop (mkF m 126 #[.val (.ref a1), .val (.int (own_mb (0 : Int32) (own_blk x0 x1 x2 x3))), .val (.int 4), .val (.int (own_t3 x4 x5 x6)), .val (.int 3)] [(.int (own_scr (own_t3 x4 x5 x6))), (.int (own_mb (0 : Int32) (own_blk x0 x1 x2 x3)))])) _
    refine own_ixor X83.here hx (hb hby d_prog_21_method_2_code_126) ?_
    refine own_istoreN X83.here hx (hb hby d_prog_21_method_2_code_127) (l' := #[.val (.ref a1), .val (.int ((own_mb (0 : Int32) (own_blk x0 x1 x2 x3)) ^^^ (own_scr (own_t3 x4 x5 x6)))), .val (.int 4), .val (.int (own_t3 x4 x5 x6)), .val (.int 3)]) rfl ?_
    refine own_iloadN X83.here hx (hb hby d_prog_21_method_2_code_128) rfl ?_
    refine own_aloadN X83.here hx (hb hby d_prog_21_method_2_code_129) rfl rfl ?_
    refine X83.arraylength hx (by rw [e83]; exact Ar84.1) (State.isArrayOf_alike hZ.alike Ar84.2.1) (g := (mkF m 130 #[.val (.ref a1), .val (.int ((own_mb (0 : Int32) (own_blk x0 x1 x2 x3)) ^^^ (own_scr (own_t3 x4 x5 x6)))), .val (.int 4), .val (.int (own_t3 x4 x5 x6)), .val (.int 3)] [(.ref a1), (.int ((own_mb (0 : Int32) (own_blk x0 x1 x2 x3)) ^^^ (own_scr (own_t3 x4 x5 x6))))])) rfl rfl (hb hby d_prog_21_method_2_code_130) _ ?_
    rw [len_of S84 M84]
    show Steps p.tables e below (T83.setTop (mkF m 131 #[.val (.ref a1), .val (.int ((own_mb (0 : Int32) (own_blk x0 x1 x2 x3)) ^^^ (own_scr (own_t3 x4 x5 x6)))), .val (.int 4), .val (.int (own_t3 x4 x5 x6)), .val (.int 3)] [(.int 7), (.int ((own_mb (0 : Int32) (own_blk x0 x1 x2 x3)) ^^^ (own_scr (own_t3 x4 x5 x6))))])) _
    refine own_ixor X83.here hx (hb hby d_prog_21_method_2_code_131) ?_
    refine own_istoreN X83.here hx (hb hby d_prog_21_method_2_code_132) (l' := #[.val (.ref a1), .val (.int (((own_mb (0 : Int32) (own_blk x0 x1 x2 x3)) ^^^ (own_scr (own_t3 x4 x5 x6))) ^^^ (7 : Int32))), .val (.int 4), .val (.int (own_t3 x4 x5 x6)), .val (.int 3)]) rfl ?_
    refine own_iloadN X83.here hx (hb hby d_prog_21_method_2_code_133) rfl ?_
    refine st85 _ ?_
    show Steps p.tables e below (T85.setTop (mkF m 137 #[.val (.ref a1), .val (.int (((own_mb (0 : Int32) (own_blk x0 x1 x2 x3)) ^^^ (own_scr (own_t3 x4 x5 x6))) ^^^ (7 : Int32))), .val (.int 4), .val (.int (own_t3 x4 x5 x6)), .val (.int 3)] [(.int (own_fin (((own_mb (0 : Int32) (own_blk x0 x1 x2 x3)) ^^^ (own_scr (own_t3 x4 x5 x6))) ^^^ (7 : Int32))))])) _
    exact retI X85 hx Bd.returns (hb hby d_prog_21_method_2_code_137) hr
  · show QH_7 Z a1 k1 x0 x1 x2 x3 x4 x5 x6 h0 n0 _ T85.heap _
    rw [e85]
    exact ⟨rfl, N85, rfl⟩
theorem ef_rmH_8 (m : MethodId) (x0 : Addr) : entryFrame m #[(.ref x0)] 5 = mkF m 0 #[.val (.ref x0), .unset, .unset, .unset, .unset] [] := by first | (simp [entryFrame, mkF, argsToLocals, Value.category]; done) | rfl
def QH_8 (Z : State) (a1 : Addr) (k1 : ClassId) (x0 : Int32) (x1 : Int32) (x2 : Int32) (x3 : Int32) (x4 : Int32) (x5 : Int32) (x6 : Int32) (x7 : Int32) (h0 : Heap) (n0 : Nat) (v : Option Value) (h : Heap) (L : List Loc) : Prop := v = some (.int (own_fin (((own_mb (own_mb (0 : Int32) (own_blk x0 x1 x2 x3)) (own_blk x4 x5 x6 x7)) ^^^ (own_scr (0 : Int32))) ^^^ (8 : Int32)))) ∧ Fr n0 L ∧ h = h0
set_option maxRecDepth 65536 in
set_option maxHeartbeats 40000000 in
theorem rmH_8 (l : Launch) (Z : State) (a0 : Array Value) (hw : ∀ d ∈ tables_1, d.before a0 Z = true) (ws : List Jvm.Cond) (a1 : Addr) (k1 : ClassId) (x0 : Int32) (x1 : Int32) (x2 : Int32) (x3 : Int32) (x4 : Int32) (x5 : Int32) (x6 : Int32) (x7 : Int32) (h0 : Heap) (n0 : Nat) (Z0 : n0 ≤ h0.size) (V1 : Arv Z h0 a1 k1 .byte (8 : Int32) [(.int x0), (.int x1), (.int x2), (.int x3), (.int x4), (.int x5), (.int x6), (.int x7)] (.int (0 : Int32))) :
    MetFree l (⟨"com/example/forkline/forkline/bucketing/MurmurHash3", "hash32", "([B)I"⟩ : MethodName) (head1 (Jvm.Cond.code (⟨"com/example/forkline/forkline/bucketing/MurmurHash3", "hash32", "([B)I"⟩ : MethodName) prog_21_method_2_code 5 (some .int) :: ws) ({ frames := 2, cells := 0, slots := 0, locals := 26 } : Room)) (fun a U => a = #[(.ref a1)] ∧ Z.Warmed39 U.vm ∧ U.heap = h0) (fun _ _ _ _ _ => True) (fun _ U o U' => ∃ v L, o = .returned v ∧ QH_8 Z a1 k1 x0 x1 x2 x3 x4 x5 x6 x7 h0 n0 v U'.heap L ∧ FrameEnd U o U' L ({ frames := 2, cells := 0, slots := 0, locals := 26 } : Room).cells ({ frames := 2, cells := 0, slots := 0, locals := 26 } : Room).slots) := by
  refine MetFree.of_bodySF (plainFor_of_name pn_com_example_forkline_forkline_bucketing_MurmurHash3) hisR ?_
  intro p e s m args below meth c s₁ Bd hml0 hP hK
  obtain ⟨rfl, hZ, hh⟩ := hP
  have hx := Bd.exec
  have hby := Bd.bytes
  have hml : c.maxLocals = 5 := hml0
  have hown : s.vm.findClass "com/example/forkline/forkline/bucketing/MurmurHash3" = some m.cls := findClass_of_methodNamed Bd.named
  have hnm := (name_of_methodNamed Bd.named Bd.method).1
  have X0 : Stand p l e ({ frames := 2, cells := 0, slots := 0, locals := 26 } : Room) s m #[(.ref a1)] below meth c s₁ [] 0 0 := Stand.of_body Bd
  have e0 : s₁.heap = h0 := by rw [← hh, Bd.state]; rfl
  have N0 := Fr.nil n0
  have pre0 : ∀ tG, Steps p.tables e below (s₁.setTop (mkF m 0 #[.val (.ref a1), .unset, .unset, .unset, .unset] [])) tG → Steps p.tables e below (s₁.setTop (entryFrame m #[(.ref a1)] 5)) tG := fun tG kG => castTop (ef_rmH_8 m a1) kG
  obtain ⟨cl86, Ar86, -, S86, M86, -, -⟩ := id V1
  obtain ⟨cl87, Ar87, -, S87, M87, -, -⟩ := id V1
  obtain ⟨cl88, Ar88, q88, S88, M88, H88, J88⟩ := id V1
  have hin88 : ¬ ((0 : Int32) < 0 ∨ cl88.slots.size ≤ ((0 : Int32)).toNatClampNeg) := inb_of S88 ⟨by decide, by decide⟩
  have hat88 : cl88.slots[((0 : Int32)).toNatClampNeg]? = some (.int x0) := Has.at H88 hin88 rfl
  obtain ⟨cl89, Ar89, q89, S89, M89, H89, J89⟩ := id V1
  have hin89 : ¬ ((1 : Int32) < 0 ∨ cl89.slots.size ≤ ((1 : Int32)).toNatClampNeg) := inb_of S89 ⟨by decide, by decide⟩
  have hat89 : cl89.slots[((1 : Int32)).toNatClampNeg]? = some (.int x1) := Has.at H89 hin89 rfl
  obtain ⟨cl90, Ar90, q90, S90, M90, H90, J90⟩ := id V1
  have hin90 : ¬ ((2 : Int32) < 0 ∨ cl90.slots.size ≤ ((2 : Int32)).toNatClampNeg) := inb_of S90 ⟨by decide, by decide⟩
  have hat90 : cl90.slots[((2 : Int32)).toNatClampNeg]? = some (.int x2) := Has.at H90 hin90 rfl
  obtain ⟨cl91, Ar91, q91, S91, M91, H91, J91⟩ := id V1
  have hin91 : ¬ ((3 : Int32) < 0 ∨ cl91.slots.size ≤ ((3 : Int32)).toNatClampNeg) := inb_of S91 ⟨by decide, by decide⟩
  have hat91 : cl91.slots[((3 : Int32)).toNatClampNeg]? = some (.int x3) := Has.at H91 hin91 rfl
  obtain ⟨_, _, ⟨T92, L92, k92, n92⟩, -, X92, ⟨Lc92, hQ92, l92, y92, z92⟩, st92⟩ := Jvm.LawKit.callS X0 hx (y := (⟨"com/example/forkline/forkline/bucketing/MurmurHash3", "scramble", "(I)I"⟩ : MethodName)) hown (mvT hZ (hw _ (List.mem_of_getElem? (i := 8) rfl))) (mvT hZ (hw _ (List.mem_of_getElem? (i := 9) rfl))) (mvT hZ (hw _ (List.mem_of_getElem? (i := 6) rfl))) (mvT hZ (hw _ (List.mem_of_getElem? (i := 10) rfl))) (by decide) (backOf (W := 1) (rm2 l Z a0 hw [] (own_blk x0 x1 x2 x3) h0 n0 Z0) hZ (hw _ (List.mem_of_getElem? (i := 10) rfl)) (hw _ (List.mem_of_getElem? (i := 6) rfl)) (by decide) (by decide)) (g := (mkF m 64 #[.val (.ref a1), .val (.int 0), .val (.int 8), .val (.int 0), .val (.int (own_blk x0 x1 x2 x3))] [(.int (own_blk x0 x1 x2 x3)), (.int 0)])) rfl (by rw [hml]; rfl) (argsL := [(.int (own_blk x0 x1 x2 x3))]) (rest := [(.int 0)]) (lenOf pd_28I29I rfl) rfl (by show 2 * 0 + _ ≤ _; exact Nat.le_of_eq rfl) (hb hby d_prog_21_method_2_code_64) (fun _ _ => ⟨rfl, e0, (by decide : 0 + 0 ≤ _), (by decide : 0 + 0 ≤ _)⟩)
  dsimp only [Pt.U, Pt.locs, Pt.cells, Pt.slots] at X92 l92 y92 z92 st92 hQ92
  subst l92 y92 z92
  obtain ⟨rfl, N92q, e92⟩ := hQ92
  have N92 := Fr.app N0 N92q
  obtain ⟨_, _, ⟨T93, L93, k93, n93⟩, -, X93, ⟨Lc93, hQ93, l93, y93, z93⟩, st93⟩ := Jvm.LawKit.callS X92 hx (y := (⟨"java/lang/Integer", "rotateLeft", "(II)I"⟩ : MethodName)) hown (mvT hZ (hw _ (List.mem_of_getElem? (i := 12) rfl))) (mvT hZ (hw _ (List.mem_of_getElem? (i := 13) rfl))) (mvT hZ (hw _ (List.mem_of_getElem? (i := 14) rfl))) (mvT hZ (hw _ (List.mem_of_getElem? (i := 15) rfl))) (by decide) (backOf (W := 0) (rm1 l Z a0 hw [] ((0 : Int32) ^^^ (own_scr (own_blk x0 x1 x2 x3))) (13 : Int32) h0 n0 Z0) hZ (hw _ (List.mem_of_getElem? (i := 15) rfl)) (hw _ (List.mem_of_getElem? (i := 14) rfl)) (by decide) (by decide)) (g := (mkF m 72 #[.val (.ref a1), .val (.int ((0 : Int32) ^^^ (own_scr (own_blk x0 x1 x2 x3)))), .val (.int 8), .val (.int 0), .val (.int (own_blk x0 x1 x2 x3))] [(.int 13), (.int ((0 : Int32) ^^^ (own_scr (own_blk x0 x1 x2 x3))))])) rfl (by rw [hml]; rfl) (argsL := [(.int ((0 : Int32) ^^^ (own_scr (own_blk x0 x1 x2 x3)))), (.int 13)]) (rest := []) (lenOf pd_28II29I rfl) rfl (by show 2 * 0 + _ ≤ _; exact Nat.le_of_eq rfl) (hb hby d_prog_21_method_2_code_72) (fun _ _ => ⟨rfl, e92, (by decide : 0 + 0 ≤ _), (by decide : 0 + 0 ≤ _)⟩)
  dsimp only [Pt.U, Pt.locs, Pt.cells, Pt.slots] at X93 l93 y93 z93 st93 hQ93
  subst l93 y93 z93
  obtain ⟨rfl, N93q, e93⟩ := hQ93
  have N93 := Fr.app N92 N93q
  obtain ⟨cl94, Ar94, q94, S94, M94, H94, J94⟩ := id V1
  have hin94 : ¬ ((4 : Int32) < 0 ∨ cl94.slots.size ≤ ((4 : Int32)).toNatClampNeg) := inb_of S94 ⟨by decide, by decide⟩
  have hat94 : cl94.slots[((4 : Int32)).toNatClampNeg]? = some (.int x4) := Has.at H94 hin94 rfl
  obtain ⟨cl95, Ar95, q95, S95, M95, H95, J95⟩ := id V1
  have hin95 : ¬ ((5 : Int32) < 0 ∨ cl95.slots.size ≤ ((5 : Int32)).toNatClampNeg) := inb_of S95 ⟨by decide, by decide⟩
  have hat95 : cl95.slots[((5 : Int32)).toNatClampNeg]? = some (.int x5) := Has.at H95 hin95 rfl
  obtain ⟨cl96, Ar96, q96, S96, M96, H96, J96⟩ := id V1
  have hin96 : ¬ ((6 : Int32) < 0 ∨ cl96.slots.size ≤ ((6 : Int32)).toNatClampNeg) := inb_of S96 ⟨by decide, by decide⟩
  have hat96 : cl96.slots[((6 : Int32)).toNatClampNeg]? = some (.int x6) := Has.at H96 hin96 rfl
  obtain ⟨cl97, Ar97, q97, S97, M97, H97, J97⟩ := id V1
  have hin97 : ¬ ((7 : Int32) < 0 ∨ cl97.slots.size ≤ ((7 : Int32)).toNatClampNeg) := inb_of S97 ⟨by decide, by decide⟩
  have hat97 : cl97.slots[((7 : Int32)).toNatClampNeg]? = some (.int x7) := Has.at H97 hin97 rfl
  obtain ⟨_, _, ⟨T98, L98, k98, n98⟩, -, X98, ⟨Lc98, hQ98, l98, y98, z98⟩, st98⟩ := Jvm.LawKit.callS X93 hx (y := (⟨"com/example/forkline/forkline/bucketing/MurmurHash3", "scramble", "(I)I"⟩ : MethodName)) hown (mvT hZ (hw _ (List.mem_of_getElem? (i := 8) rfl))) (mvT hZ (hw _ (List.mem_of_getElem? (i := 9) rfl))) (mvT hZ (hw _ (List.mem_of_getElem? (i := 6) rfl))) (mvT hZ (hw _ (List.mem_of_getElem? (i := 10) rfl))) (by decide) (backOf (W := 1) (rm2 l Z a0 hw [] (own_blk x4 x5 x6 x7) h0 n0 Z0) hZ (hw _ (List.mem_of_getElem? (i := 10) rfl)) (hw _ (List.mem_of_getElem? (i := 6) rfl)) (by decide) (by decide)) (g := (mkF m 64 #[.val (.ref a1), .val (.int (own_mb (0 : Int32) (own_blk x0 x1 x2 x3))), .val (.int 8), .val (.int 4), .val (.int (own_blk x4 x5 x6 x7))] [(.int (own_blk x4 x5 x6 x7)), (.int (own_mb (0 : Int32) (own_blk x0 x1 x2 x3)))])) rfl (by rw [hml]; rfl) (argsL := [(.int (own_blk x4 x5 x6 x7))]) (rest := [(.int (own_mb (0 : Int32) (own_blk x0 x1 x2 x3)))]) (lenOf pd_28I29I rfl) rfl (by show 2 * 0 + _ ≤ _; exact Nat.le_of_eq rfl) (hb hby d_prog_21_method_2_code_64) (fun _ _ => ⟨rfl, e93, (by decide : 0 + 0 ≤ _), (by decide : 0 + 0 ≤ _)⟩)
  dsimp only [Pt.U, Pt.locs, Pt.cells, Pt.slots] at X98 l98 y98 z98 st98 hQ98
  subst l98 y98 z98
  obtain ⟨rfl, N98q, e98⟩ := hQ98
  have N98 := Fr.app N93 N98q
  obtain ⟨_, _, ⟨T99, L99, k99, n99⟩, -, X99, ⟨Lc99, hQ99, l99, y99, z99⟩, st99⟩ := Jvm.LawKit.callS X98 hx (y := (⟨"java/lang/Integer", "rotateLeft", "(II)I"⟩ : MethodName)) hown (mvT hZ (hw _ (List.mem_of_getElem? (i := 12) rfl))) (mvT hZ (hw _ (List.mem_of_getElem? (i := 13) rfl))) (mvT hZ (hw _ (List.mem_of_getElem? (i := 14) rfl))) (mvT hZ (hw _ (List.mem_of_getElem? (i := 15) rfl))) (by decide) (backOf (W := 0) (rm1 l Z a0 hw [] ((own_mb (0 : Int32) (own_blk x0 x1 x2 x3)) ^^^ (own_scr (own_blk x4 x5 x6 x7))) (13 : Int32) h0 n0 Z0) hZ (hw _ (List.mem_of_getElem? (i := 15) rfl)) (hw _ (List.mem_of_getElem? (i := 14) rfl)) (by decide) (by decide)) (g := (mkF m 72 #[.val (.ref a1), .val (.int ((own_mb (0 : Int32) (own_blk x0 x1 x2 x3)) ^^^ (own_scr (own_blk x4 x5 x6 x7)))), .val (.int 8), .val (.int 4), .val (.int (own_blk x4 x5 x6 x7))] [(.int 13), (.int ((own_mb (0 : Int32) (own_blk x0 x1 x2 x3)) ^^^ (own_scr (own_blk x4 x5 x6 x7))))])) rfl (by rw [hml]; rfl) (argsL := [(.int ((own_mb (0 : Int32) (own_blk x0 x1 x2 x3)) ^^^ (own_scr (own_blk x4 x5 x6 x7)))), (.int 13)]) (rest := []) (lenOf pd_28II29I rfl) rfl (by show 2 * 0 + _ ≤ _; exact Nat.le_of_eq rfl) (hb hby d_prog_21_method_2_code_72) (fun _ _ => ⟨rfl, e98, (by decide : 0 + 0 ≤ _), (by decide : 0 + 0 ≤ _)⟩)
  dsimp only [Pt.U, Pt.locs, Pt.cells, Pt.slots] at X99 l99 y99 z99 st99 hQ99
  subst l99 y99 z99
  obtain ⟨rfl, N99q, e99⟩ := hQ99
  have N99 := Fr.app N98 N99q
  obtain ⟨cl100, Ar100, -, S100, M100, -, -⟩ := id V1
  obtain ⟨_, _, ⟨T101, L101, k101, n101⟩, -, X101, ⟨Lc101, hQ101, l101, y101, z101⟩, st101⟩ := Jvm.LawKit.callS X99 hx (y := (⟨"com/example/forkline/forkline/bucketing/MurmurHash3", "scramble", "(I)I"⟩ : MethodName)) hown (mvT hZ (hw _ (List.mem_of_getElem? (i := 8) rfl))) (mvT hZ (hw _ (List.mem_of_getElem? (i := 9) rfl))) (mvT hZ (hw _ (List.mem_of_getElem? (i := 6) rfl))) (mvT hZ (hw _ (List.mem_of_getElem? (i := 10) rfl))) (by decide) (backOf (W := 1) (rm2 l Z a0 hw [] (0 : Int32) h0 n0 Z0) hZ (hw _ (List.mem_of_getElem? (i := 10) rfl)) (hw _ (List.mem_of_getElem? (i := 6) rfl)) (by decide) (by decide)) (g := (mkF m 123 #[.val (.ref a1), .val (.int (own_mb (own_mb (0 : Int32) (own_blk x0 x1 x2 x3)) (own_blk x4 x5 x6 x7))), .val (.int 8), .val (.int 0), .val (.int 7)] [(.int 0), (.int (own_mb (own_mb (0 : Int32) (own_blk x0 x1 x2 x3)) (own_blk x4 x5 x6 x7)))])) rfl (by rw [hml]; rfl) (argsL := [(.int 0)]) (rest := [(.int (own_mb (own_mb (0 : Int32) (own_blk x0 x1 x2 x3)) (own_blk x4 x5 x6 x7)))]) (lenOf pd_28I29I rfl) rfl (by show 2 * 0 + _ ≤ _; exact Nat.le_of_eq rfl) (hb hby d_prog_21_method_2_code_123) (fun _ _ => ⟨rfl, e99, (by decide : 0 + 0 ≤ _), (by decide : 0 + 0 ≤ _)⟩)
  dsimp only [Pt.U, Pt.locs, Pt.cells, Pt.slots] at X101 l101 y101 z101 st101 hQ101
  subst l101 y101 z101
  obtain ⟨rfl, N101q, e101⟩ := hQ101
  have N101 := Fr.app N99 N101q
  obtain ⟨cl102, Ar102, -, S102, M102, -, -⟩ := id V1
  obtain ⟨_, _, ⟨T103, L103, k103, n103⟩, -, X103, ⟨Lc103, hQ103, l103, y103, z103⟩, st103⟩ := Jvm.LawKit.callS X101 hx (y := (⟨"com/example/forkline/forkline/bucketing/MurmurHash3", "finalMix", "(I)I"⟩ : MethodName)) hown (mvT hZ (hw _ (List.mem_of_getElem? (i := 17) rfl))) (mvT hZ (hw _ (List.mem_of_getElem? (i := 18) rfl))) (mvT hZ (hw _ (List.mem_of_getElem? (i := 6) rfl))) (mvT hZ (hw _ (List.mem_of_getElem? (i := 19) rfl))) (by decide) (backOf (W := 0) (rm3 l Z a0 hw [] (((own_mb (own_mb (0 : Int32) (own_blk x0 x1 x2 x3)) (own_blk x4 x5 x6 x7)) ^^^ (own_scr (0 : Int32))) ^^^ (8 : Int32)) h0 n0 Z0) hZ (hw _ (List.mem_of_getElem? (i := 19) rfl)) (hw _ (List.mem_of_getElem? (i := 6) rfl)) (by decide) (by decide)) (g := (mkF m 134 #[.val (.ref a1), .val (.int (((own_mb (own_mb (0 : Int32) (own_blk x0 x1 x2 x3)) (own_blk x4 x5 x6 x7)) ^^^ (own_scr (0 : Int32))) ^^^ (8 : Int32))), .val (.int 8), .val (.int 0), .val (.int 7)] [(.int (((own_mb (own_mb (0 : Int32) (own_blk x0 x1 x2 x3)) (own_blk x4 x5 x6 x7)) ^^^ (own_scr (0 : Int32))) ^^^ (8 : Int32)))])) rfl (by rw [hml]; rfl) (argsL := [(.int (((own_mb (own_mb (0 : Int32) (own_blk x0 x1 x2 x3)) (own_blk x4 x5 x6 x7)) ^^^ (own_scr (0 : Int32))) ^^^ (8 : Int32)))]) (rest := []) (lenOf pd_28I29I rfl) rfl (by show 2 * 0 + _ ≤ _; exact Nat.le_of_eq rfl) (hb hby d_prog_21_method_2_code_134) (fun _ _ => ⟨rfl, e101, (by decide : 0 + 0 ≤ _), (by decide : 0 + 0 ≤ _)⟩)
  dsimp only [Pt.U, Pt.locs, Pt.cells, Pt.slots] at X103 l103 y103 z103 st103 hQ103
  subst l103 y103 z103
  obtain ⟨rfl, N103q, e103⟩ := hQ103
  have N103 := Fr.app N101 N103q
  obtain ⟨fs, hr, hrun, hended, hW, hsame⟩ := X103.leave (v := some (.int (own_fin (((own_mb (own_mb (0 : Int32) (own_blk x0 x1 x2 x3)) (own_blk x4 x5 x6 x7)) ^^^ (own_scr (0 : Int32))) ^^^ (8 : Int32))))) (fun h => by rw [Bd.returns] at h; cases h)
  refine ⟨_, _, pre0 _ ?_, hrun, hended, _, _, rfl, ?_, ⟨_, rfl⟩, hW, hsame.mono (by decide) (by decide)⟩
  · refine own_iconst X0.here hx (0 : Int32) (hb hby d_prog_21_method_2_code_0) rfl ?_
    refine own_istoreN X0.here hx (hb hby d_prog_21_method_2_code_1) (l' := #[.val (.ref a1), .val (.int 0), .unset, .unset, .unset]) rfl ?_
    refine own_aloadN X0.here hx (hb hby d_prog_21_method_2_code_2) rfl rfl ?_
    refine X0.arraylength hx (by rw [e0]; exact Ar86.1) (State.isArrayOf_alike hZ.alike Ar86.2.1) (g := (mkF m 3 #[.val (.ref a1), .val (.int 0), .unset, .unset, .unset] [(.ref a1)])) rfl rfl (hb hby d_prog_21_method_2_code_3) _ ?_
    rw [len_of S86 M86]
    show Steps p.tables e below (s₁.setTop (mkF m 4 #[.val (.ref a1), .val (.int 0), .unset, .unset, .unset] [(.int 8)])) _
    refine own_aloadN X0.here hx (hb hby d_prog_21_method_2_code_4) rfl rfl ?_
    refine X0.arraylength hx (by rw [e0]; exact Ar87.1) (State.isArrayOf_alike hZ.alike Ar87.2.1) (g := (mkF m 5 #[.val (.ref a1), .val (.int 0), .unset, .unset, .unset] [(.ref a1), (.int 8)])) rfl rfl (hb hby d_prog_21_method_2_code_5) _ ?_
    rw [len_of S87 M87]
    show Steps p.tables e below (s₁.setTop (mkF m 6 #[.val (.ref a1), .val (.int 0), .unset, .unset, .unset] [(.int 8), (.int 8)])) _
    refine own_iconst X0.here hx (4 : Int32) (hb hby d_prog_21_method_2_code_6) rfl ?_
    refine own_irem X0.here hx (hb hby d_prog_21_method_2_code_7) (by decide) ?_
    show Steps p.tables e below (s₁.setTop (mkF m 8 #[.val (.ref a1), .val (.int 0), .unset, .unset, .unset] [(.int 0), (.int 8)])) _
    refine own_isub X0.here hx (hb hby d_prog_21_method_2_code_8) ?_
    show Steps p.tables e below (s₁.setTop (mkF m 9 #[.val (.ref a1), .val (.int 0), .unset, .unset, .unset] [(.int 8)])) _
    refine own_istoreN X0.here hx (hb hby d_prog_21_method_2_code_9) (l' := #[.val (.ref a1), .val (.int 0), .val (.int 8), .unset, .unset]) rfl ?_
    refine own_iconst X0.here hx (0 : Int32) (hb hby d_prog_21_method_2_code_10) rfl ?_
    refine own_istoreN X0.here hx (hb hby d_prog_21_method_2_code_11) (l' := #[.val (.ref a1), .val (.int 0), .val (.int 8), .val (.int 0), .unset]) rfl ?_
    refine own_iloadN X0.here hx (hb hby d_prog_21_method_2_code_12) rfl ?_
    refine own_iloadN X0.here hx (hb hby d_prog_21_method_2_code_13) rfl ?_
    refine own_icmpNo X0.here hx (hb hby d_prog_21_method_2_code_14) (tlt (by decide : (0 : Int32) < (8 : Int32))).2.1 ?_
    refine own_aloadN X0.here hx (hb hby d_prog_21_method_2_code_17) rfl rfl ?_
    refine own_iloadN X0.here hx (hb hby d_prog_21_method_2_code_18) rfl ?_
    refine X0.baloadBytes hx (j := (0 : Int32)) (v := (.int x0)) (by rw [e0]; exact Ar88.1) (State.isArrayOf_alike hZ.alike Ar88.2.1) Ar88.2.2 hin88 hat88 (g := (mkF m 19 #[.val (.ref a1), .val (.int 0), .val (.int 8), .val (.int 0), .unset] [(.int 0), (.ref a1)])) rfl rfl (hb hby d_prog_21_method_2_code_19) _ ?_
    show Steps p.tables e below (s₁.setTop (mkF m 20 #[.val (.ref a1), .val (.int 0), .val (.int 8), .val (.int 0), .unset] [(.int x0)])) _
    refine own_sipush X0.here hx (255 : Int32) (hb hby d_prog_21_method_2_code_20) rfl ?_
    refine own_iand X0.here hx (hb hby d_prog_21_method_2_code_23) ?_
    refine own_aloadN X0.here hx (hb hby d_prog_21_method_2_code_24) rfl rfl ?_
    refine own_iloadN X0.here hx (hb hby d_prog_21_method_2_code_25) rfl ?_
    refine own_iconst X0.here hx (1 : Int32) (hb hby d_prog_21_method_2_code_26) rfl ?_
    refine own_iadd X0.here hx (hb hby d_prog_21_method_2_code_27) ?_
    show Steps p.tables e below (s₁.setTop (mkF m 28 #[.val (.ref a1), .val (.int 0), .val (.int 8), .val (.int 0), .unset] [(.int 1), (.ref a1), (.int (x0 &&& (255 : Int32)))])) _
    refine X0.baloadBytes hx (j := (1 : Int32)) (v := (.int x1)) (by rw [e0]; exact Ar89.1) (State.isArrayOf_alike hZ.alike Ar89.2.1) Ar89.2.2 hin89 hat89 (g := (mkF m 28 #[.val (.ref a1), .val (.int 0), .val (.int 8), .val (.int 0), .unset] [(.int 1), (.ref a1), (.int (x0 &&& (255 : Int32)))])) rfl rfl (hb hby d_prog_21_method_2_code_28) _ ?_
    show Steps p.tables e below (s₁.setTop (mkF m 29 #[.val (.ref a1), .val (.int 0), .val (.int 8), .val (.int 0), .unset] [(.int x1), (.int (x0 &&& (255 : Int32)))])) _
    refine own_sipush X0.here hx (255 : Int32) (hb hby d_prog_21_method_2_code_29) rfl ?_
    refine own_iand X0.here hx (hb hby d_prog_21_method_2_code_32) ?_
    refine own_bipush X0.here hx (8 : Int32) (hb hby d_prog_21_method_2_code_33) rfl ?_
    refine own_ishl X0.here hx (hb hby d_prog_21_method_2_code_35) ?_
    refine own_ior X0.here hx (hb hby d_prog_21_method_2_code_36) ?_
    refine own_aloadN X0.here hx (hb hby d_prog_21_method_2_code_37) rfl rfl ?_
    refine own_iloadN X0.here hx (hb hby d_prog_21_method_2_code_38) rfl ?_
    refine own_iconst X0.here hx (2 : Int32) (hb hby d_prog_21_method_2_code_39) rfl ?_
    refine own_iadd X0.here hx (hb hby d_prog_21_method_2_code_40) ?_
    show Steps p.tables e below (s₁.setTop (mkF m 41 #[.val (.ref a1), .val (.int 0), .val (.int 8), .val (.int 0), .unset] [(.int 2), (.ref a1), (.int ((x0 &&& (255 : Int32)) ||| ((x1 &&& (255 : Int32)) <<< ((8 : Int32) &&& 31))))])) _
    refine X0.baloadBytes hx (j := (2 : Int32)) (v := (.int x2)) (by rw [e0]; exact Ar90.1) (State.isArrayOf_alike hZ.alike Ar90.2.1) Ar90.2.2 hin90 hat90 (g := (mkF m 41 #[.val (.ref a1), .val (.int 0), .val (.int 8), .val (.int 0), .unset] [(.int 2), (.ref a1), (.int ((x0 &&& (255 : Int32)) ||| ((x1 &&& (255 : Int32)) <<< ((8 : Int32) &&& 31))))])) rfl rfl (hb hby d_prog_21_method_2_code_41) _ ?_
    show Steps p.tables e below (s₁.setTop (mkF m 42 #[.val (.ref a1), .val (.int 0), .val (.int 8), .val (.int 0), .unset] [(.int x2), (.int ((x0 &&& (255 : Int32)) ||| ((x1 &&& (255 : Int32)) <<< ((8 : Int32) &&& 31))))])) _
    refine own_sipush X0.here hx (255 : Int32) (hb hby d_prog_21_method_2_code_42) rfl ?_
    refine own_iand X0.here hx (hb hby d_prog_21_method_2_code_45) ?_
    refine own_bipush X0.here hx (16 : Int32) (hb hby d_prog_21_method_2_code_46) rfl ?_
    refine own_ishl X0.here hx (hb hby d_prog_21_method_2_code_48) ?_
    refine own_ior X0.here hx (hb hby d_prog_21_method_2_code_49) ?_
    refine own_aloadN X0.here hx (hb hby d_prog_21_method_2_code_50) rfl rfl ?_
    refine own_iloadN X0.here hx (hb hby d_prog_21_method_2_code_51) rfl ?_
    refine own_iconst X0.here hx (3 : Int32) (hb hby d_prog_21_method_2_code_52) rfl ?_
    refine own_iadd X0.here hx (hb hby d_prog_21_method_2_code_53) ?_
    show Steps p.tables e below (s₁.setTop (mkF m 54 #[.val (.ref a1), .val (.int 0), .val (.int 8), .val (.int 0), .unset] [(.int 3), (.ref a1), (.int (((x0 &&& (255 : Int32)) ||| ((x1 &&& (255 : Int32)) <<< ((8 : Int32) &&& 31))) ||| ((x2 &&& (255 : Int32)) <<< ((16 : Int32) &&& 31))))])) _
    refine X0.baloadBytes hx (j := (3 : Int32)) (v := (.int x3)) (by rw [e0]; exact Ar91.1) (State.isArrayOf_alike hZ.alike Ar91.2.1) Ar91.2.2 hin91 hat91 (g := (mkF m 54 #[.val (.ref a1), .val (.int 0), .val (.int 8), .val (.int 0), .unset] [(.int 3), (.ref a1), (.int (((x0 &&& (255 : Int32)) ||| ((x1 &&& (255 : Int32)) <<< ((8 : Int32) &&& 31))) ||| ((x2 &&& (255 : Int32)) <<< ((16 : Int32) &&& 31))))])) rfl rfl (hb hby d_prog_21_method_2_code_54) _ ?_
    show Steps p.tables e below (s₁.setTop (mkF m 55 #[.val (.ref a1), .val (.int 0), .val (.int 8), .val (.int 0), .unset] [(.int x3), (.int (((x0 &&& (255 : Int32)) ||| ((x1 &&& (255 : Int32)) <<< ((8 : Int32) &&& 31))) ||| ((x2 &&& (255 : Int32)) <<< ((16 : Int32) &&& 31))))])) _
    refine own_bipush X0.here hx (24 : Int32) (hb hby d_prog_21_method_2_code_55) rfl ?_
    refine own_ishl X0.here hx (hb hby d_prog_21_method_2_code_57) ?_
    refine own_ior X0.here hx (hb hby d_prog_21_method_2_code_58) ?_
    show Steps p.tables e below (s₁.setTop (mkF m 59 #[.val (.ref a1), .val (.int 0), .val (.int 8), .val (.int 0), .unset] [(.int (own_blk x0 x1 x2 x3))])) _
    refine own_istore X0.here hx (hb hby d_prog_21_method_2_code_59) (l' := #[.val (.ref a1), .val (.int 0), .val (.int 8), .val (.int 0), .val (.int (own_blk x0 x1 x2 x3))]) rfl ?_
    refine own_iloadN X0.here hx (hb hby d_prog_21_method_2_code_61) rfl ?_
    refine own_iload X0.here hx (hb hby d_prog_21_method_2_code_62) rfl ?_
    refine st92 _ ?_
    show Steps p.tables e below (T92.setTop (mkF m 67 #[.val (.ref a1), .val (.int 0), .val (.int 8), .val (.int 0), .val (.int (own_blk x0 x1 x2 x3))] [(.int (own_scr (own_blk x0 x1 x2 x3))), (.int 0)])) _
    refine own_ixor X92.here hx (hb hby d_prog_21_method_2_code_67) ?_
    refine own_istoreN X92.here hx (hb hby d_prog_21_method_2_code_68) (l' := #[.val (.ref a1), .val (.int ((0 : Int32) ^^^ (own_scr (own_blk x0 x1 x2 x3)))), .val (.int 8), .val (.int 0), .val (.int (own_blk x0 x1 x2 x3))]) rfl ?_
    refine own_iloadN X92.here hx (hb hby d_prog_21_method_2_code_69) rfl ?_
    refine own_bipush X92.here hx (13 : Int32) (hb hby d_prog_21_method_2_code_70) rfl ?_
    refine st93 _ ?_
    show Steps p.tables e below (T93.setTop (mkF m 75 #[.val (.ref a1), .val (.int ((0 : Int32) ^^^ (own_scr (own_blk x0 x1 x2 x3)))), .val (.int 8), .val (.int 0), .val (.int (own_blk x0 x1 x2 x3))] [(.int (own_rotl ((0 : Int32) ^^^ (own_scr (own_blk x0 x1 x2 x3))) (13 : Int32)))])) _
    refine own_iconst X93.here hx (5 : Int32) (hb hby d_prog_21_method_2_code_75) rfl ?_
    refine own_imul X93.here hx (hb hby d_prog_21_method_2_code_76) ?_
    refine X93.ldcInt hx hown (mvT hZ (hw _ (List.mem_of_getElem? (i := 29) rfl))) (g := (mkF m 77 #[.val (.ref a1), .val (.int ((0 : Int32) ^^^ (own_scr (own_blk x0 x1 x2 x3)))), .val (.int 8), .val (.int 0), .val (.int (own_blk x0 x1 x2 x3))] [(.int ((own_rotl ((0 : Int32) ^^^ (own_scr (own_blk x0 x1 x2 x3))) (13 : Int32)) * (5 : Int32)))])) rfl (hb hby d_prog_21_method_2_code_77) _ ?_
    show Steps p.tables e below (T93.setTop (mkF m 79 #[.val (.ref a1), .val (.int ((0 : Int32) ^^^ (own_scr (own_blk x0 x1 x2 x3)))), .val (.int 8), .val (.int 0), .val (.int (own_blk x0 x1 x2 x3))] [(.int (-430675100)), (.int ((own_rotl ((0 : Int32) ^^^ (own_scr (own_blk x0 x1 x2 x3))) (13 : Int32)) * (5 : Int32)))])) _
    refine own_iadd X93.here hx (hb hby d_prog_21_method_2_code_79) ?_
    show Steps p.tables e below (T93.setTop (mkF m 80 #[.val (.ref a1), .val (.int ((0 : Int32) ^^^ (own_scr (own_blk x0 x1 x2 x3)))), .val (.int 8), .val (.int 0), .val (.int (own_blk x0 x1 x2 x3))] [(.int (own_mb (0 : Int32) (own_blk x0 x1 x2 x3)))])) _
    refine own_istoreN X93.here hx (hb hby d_prog_21_method_2_code_80) (l' := #[.val (.ref a1), .val (.int (own_mb (0 : Int32) (own_blk x0 x1 x2 x3))), .val (.int 8), .val (.int 0), .val (.int (own_blk x0 x1 x2 x3))]) rfl ?_
    refine own_iinc X93.here hx (4 : Int32) (hb hby d_prog_21_method_2_code_81) rfl rfl (l' := #[.val (.ref a1), .val (.int (own_mb (0 : Int32) (own_blk x0 x1 x2 x3))), .val (.int 8), .val (.int 4), .val (.int (own_blk x0 x1 x2 x3))]) rfl ?_
    refine own_goto X93.here hx 84 12 rfl (hb hby d_prog_21_method_2_code_84) (by decide) (by decide) ?_
    refine own_iloadN X93.here hx (hb hby d_prog_21_method_2_code_12) rfl ?_
    refine own_iloadN X93.here hx (hb hby d_prog_21_method_2_code_13) rfl ?_
    refine own_icmpNo X93.here hx (hb hby d_prog_21_method_2_code_14) (tlt (by decide : (4 : Int32) < (8 : Int32))).2.1 ?_
    refine own_aloadN X93.here hx (hb hby d_prog_21_method_2_code_17) rfl rfl ?_
    refine own_iloadN X93.here hx (hb hby d_prog_21_method_2_code_18) rfl ?_
    refine X93.baloadBytes hx (j := (4 : Int32)) (v := (.int x4)) (by rw [e93]; exact Ar94.1) (State.isArrayOf_alike hZ.alike Ar94.2.1) Ar94.2.2 hin94 hat94 (g := (mkF m 19 #[.val (.ref a1), .val (.int (own_mb (0 : Int32) (own_blk x0 x1 x2 x3))), .val (.int 8), .val (.int 4), .val (.int (own_blk x0 x1 x2 x3))] [(.int 4), (.ref a1)])) rfl rfl (hb hby d_prog_21_method_2_code_19) _ ?_
    show Steps p.tables e below (T93.setTop (mkF m 20 #[.val (.ref a1), .val (.int (own_mb (0 : Int32) (own_blk x0 x1 x2 x3))), .val (.int 8), .val (.int 4), .val (.int (own_blk x0 x1 x2 x3))] [(.int x4)])) _
    refine own_sipush X93.here hx (255 : Int32) (hb hby d_prog_21_method_2_code_20) rfl ?_
    refine own_iand X93.here hx (hb hby d_prog_21_method_2_code_23) ?_
    refine own_aloadN X93.here hx (hb hby d_prog_21_method_2_code_24) rfl rfl ?_
    refine own_iloadN X93.here hx (hb hby d_prog_21_method_2_code_25) rfl ?_
    refine own_iconst X93.here hx (1 : Int32) (hb hby d_prog_21_method_2_code_26) rfl ?_
    refine own_iadd X93.here hx (hb hby d_prog_21_method_2_code_27) ?_
    show Steps p.tables e below (T93.setTop (mkF m 28 #[.val (.ref a1), .val (.int (own_mb (0 : Int32) (own_blk x0 x1 x2 x3))), .val (.int 8), .val (.int 4), .val (.int (own_blk x0 x1 x2 x3))] [(.int 5), (.ref a1), (.int (x4 &&& (255 : Int32)))])) _
    refine X93.baloadBytes hx (j := (5 : Int32)) (v := (.int x5)) (by rw [e93]; exact Ar95.1) (State.isArrayOf_alike hZ.alike Ar95.2.1) Ar95.2.2 hin95 hat95 (g := (mkF m 28 #[.val (.ref a1), .val (.int (own_mb (0 : Int32) (own_blk x0 x1 x2 x3))), .val (.int 8), .val (.int 4), .val (.int (own_blk x0 x1 x2 x3))] [(.int 5), (.ref a1), (.int (x4 &&& (255 : Int32)))])) rfl rfl (hb hby d_prog_21_method_2_code_28) _ ?_
    show Steps p.tables e below (T93.setTop (mkF m 29 #[.val (.ref a1), .val (.int (own_mb (0 : Int32) (own_blk x0 x1 x2 x3))), .val (.int 8), .val (.int 4), .val (.int (own_blk x0 x1 x2 x3))] [(.int x5), (.int (x4 &&& (255 : Int32)))])) _
    refine own_sipush X93.here hx (255 : Int32) (hb hby d_prog_21_method_2_code_29) rfl ?_
    refine own_iand X93.here hx (hb hby d_prog_21_method_2_code_32) ?_
    refine own_bipush X93.here hx (8 : Int32) (hb hby d_prog_21_method_2_code_33) rfl ?_
    refine own_ishl X93.here hx (hb hby d_prog_21_method_2_code_35) ?_
    refine own_ior X93.here hx (hb hby d_prog_21_method_2_code_36) ?_
    refine own_aloadN X93.here hx (hb hby d_prog_21_method_2_code_37) rfl rfl ?_
    refine own_iloadN X93.here hx (hb hby d_prog_21_method_2_code_38) rfl ?_
    refine own_iconst X93.here hx (2 : Int32) (hb hby d_prog_21_method_2_code_39) rfl ?_
    refine own_iadd X93.here hx (hb hby d_prog_21_method_2_code_40) ?_
    show Steps p.tables e below (T93.setTop (mkF m 41 #[.val (.ref a1), .val (.int (own_mb (0 : Int32) (own_blk x0 x1 x2 x3))), .val (.int 8), .val (.int 4), .val (.int (own_blk x0 x1 x2 x3))] [(.int 6), (.ref a1), (.int ((x4 &&& (255 : Int32)) ||| ((x5 &&& (255 : Int32)) <<< ((8 : Int32) &&& 31))))])) _
    refine X93.baloadBytes hx (j := (6 : Int32)) (v := (.int x6)) (by rw [e93]; exact Ar96.1) (State.isArrayOf_alike hZ.alike Ar96.2.1) Ar96.2.2 hin96 hat96 (g := (mkF m 41 #[.val (.ref a1), .val (.int (own_mb (0 : Int32) (own_blk x0 x1 x2 x3))), .val (.int 8), .val (.int 4), .val (.int (own_blk x0 x1 x2 x3))] [(.int 6), (.ref a1), (.int ((x4 &&& (255 : Int32)) ||| ((x5 &&& (255 : Int32)) <<< ((8 : Int32) &&& 31))))])) rfl rfl (hb hby d_prog_21_method_2_code_41) _ ?_
    show Steps p.tables e below (T93.setTop (mkF m 42 #[.val (.ref a1), .val (.int (own_mb (0 : Int32) (own_blk x0 x1 x2 x3))), .val (.int 8), .val (.int 4), .val (.int (own_blk x0 x1 x2 x3))] [(.int x6), (.int ((x4 &&& (255 : Int32)) ||| ((x5 &&& (255 : Int32)) <<< ((8 : Int32) &&& 31))))])) _
    refine own_sipush X93.here hx (255 : Int32) (hb hby d_prog_21_method_2_code_42) rfl ?_
    refine own_iand X93.here hx (hb hby d_prog_21_method_2_code_45) ?_
    refine own_bipush X93.here hx (16 : Int32) (hb hby d_prog_21_method_2_code_46) rfl ?_
    refine own_ishl X93.here hx (hb hby d_prog_21_method_2_code_48) ?_
    refine own_ior X93.here hx (hb hby d_prog_21_method_2_code_49) ?_
    refine own_aloadN X93.here hx (hb hby d_prog_21_method_2_code_50) rfl rfl ?_
    refine own_iloadN X93.here hx (hb hby d_prog_21_method_2_code_51) rfl ?_
    refine own_iconst X93.here hx (3 : Int32) (hb hby d_prog_21_method_2_code_52) rfl ?_
    refine own_iadd X93.here hx (hb hby d_prog_21_method_2_code_53) ?_
    show Steps p.tables e below (T93.setTop (mkF m 54 #[.val (.ref a1), .val (.int (own_mb (0 : Int32) (own_blk x0 x1 x2 x3))), .val (.int 8), .val (.int 4), .val (.int (own_blk x0 x1 x2 x3))] [(.int 7), (.ref a1), (.int (((x4 &&& (255 : Int32)) ||| ((x5 &&& (255 : Int32)) <<< ((8 : Int32) &&& 31))) ||| ((x6 &&& (255 : Int32)) <<< ((16 : Int32) &&& 31))))])) _
    refine X93.baloadBytes hx (j := (7 : Int32)) (v := (.int x7)) (by rw [e93]; exact Ar97.1) (State.isArrayOf_alike hZ.alike Ar97.2.1) Ar97.2.2 hin97 hat97 (g := (mkF m 54 #[.val (.ref a1), .val (.int (own_mb (0 : Int32) (own_blk x0 x1 x2 x3))), .val (.int 8), .val (.int 4), .val (.int (own_blk x0 x1 x2 x3))] [(.int 7), (.ref a1), (.int (((x4 &&& (255 : Int32)) ||| ((x5 &&& (255 : Int32)) <<< ((8 : Int32) &&& 31))) ||| ((x6 &&& (255 : Int32)) <<< ((16 : Int32) &&& 31))))])) rfl rfl (hb hby d_prog_21_method_2_code_54) _ ?_
    show Steps p.tables e below (T93.setTop (mkF m 55 #[.val (.ref a1), .val (.int (own_mb (0 : Int32) (own_blk x0 x1 x2 x3))), .val (.int 8), .val (.int 4), .val (.int (own_blk x0 x1 x2 x3))] [(.int x7), (.int (((x4 &&& (255 : Int32)) ||| ((x5 &&& (255 : Int32)) <<< ((8 : Int32) &&& 31))) ||| ((x6 &&& (255 : Int32)) <<< ((16 : Int32) &&& 31))))])) _
    refine own_bipush X93.here hx (24 : Int32) (hb hby d_prog_21_method_2_code_55) rfl ?_
    refine own_ishl X93.here hx (hb hby d_prog_21_method_2_code_57) ?_
    refine own_ior X93.here hx (hb hby d_prog_21_method_2_code_58) ?_
    show Steps p.tables e below (T93.setTop (mkF m 59 #[.val (.ref a1), .val (.int (own_mb (0 : Int32) (own_blk x0 x1 x2 x3))), .val (.int 8), .val (.int 4), .val (.int (own_blk x0 x1 x2 x3))] [(.int (own_blk x4 x5 x6 x7))])) _
    refine own_istore X93.here hx (hb hby d_prog_21_method_2_code_59) (l' := #[.val (.ref a1), .val (.int (own_mb (0 : Int32) (own_blk x0 x1 x2 x3))), .val (.int 8), .val (.int 4), .val (.int (own_blk x4 x5 x6 x7))]) rfl ?_
    refine own_iloadN X93.here hx (hb hby d_prog_21_method_2_code_61) rfl ?_
    refine own_iload X93.here hx (hb hby d_prog_21_method_2_code_62) rfl ?_
    refine st98 _ ?_
    show Steps p.tables e below (T98.setTop (mkF m 67 #[.val (.ref a1), .val (.int (own_mb (0 : Int32) (own_blk x0 x1 x2 x3))), .val (.int 8), .val (.int 4), .val (.int (own_blk x4 x5 x6 x7))] [(.int (own_scr (own_blk x4 x5 x6 x7))), (.int (own_mb (0 : Int32) (own_blk x0 x1 x2 x3)))])) _
    refine own_ixor X98.here hx (hb hby d_prog_21_method_2_code_67) ?_
    refine own_istoreN X98.here hx (hb hby d_prog_21_method_2_code_68) (l' := #[.val (.ref a1), .val (.int ((own_mb (0 : Int32) (own_blk x0 x1 x2 x3)) ^^^ (own_scr (own_blk x4 x5 x6 x7)))), .val (.int 8), .val (.int 4), .val (.int (own_blk x4 x5 x6 x7))]) rfl ?_
    refine own_iloadN X98.here hx (hb hby d_prog_21_method_2_code_69) rfl ?_
    refine own_bipush X98.here hx (13 : Int32) (hb hby d_prog_21_method_2_code_70) rfl ?_
    refine st99 _ ?_
    show Steps p.tables e below (T99.setTop (mkF m 75 #[.val (.ref a1), .val (.int ((own_mb (0 : Int32) (own_blk x0 x1 x2 x3)) ^^^ (own_scr (own_blk x4 x5 x6 x7)))), .val (.int 8), .val (.int 4), .val (.int (own_blk x4 x5 x6 x7))] [(.int (own_rotl ((own_mb (0 : Int32) (own_blk x0 x1 x2 x3)) ^^^ (own_scr (own_blk x4 x5 x6 x7))) (13 : Int32)))])) _
    refine own_iconst X99.here hx (5 : Int32) (hb hby d_prog_21_method_2_code_75) rfl ?_
    refine own_imul X99.here hx (hb hby d_prog_21_method_2_code_76) ?_
    refine X99.ldcInt hx hown (mvT hZ (hw _ (List.mem_of_getElem? (i := 29) rfl))) (g := (mkF m 77 #[.val (.ref a1), .val (.int ((own_mb (0 : Int32) (own_blk x0 x1 x2 x3)) ^^^ (own_scr (own_blk x4 x5 x6 x7)))), .val (.int 8), .val (.int 4), .val (.int (own_blk x4 x5 x6 x7))] [(.int ((own_rotl ((own_mb (0 : Int32) (own_blk x0 x1 x2 x3)) ^^^ (own_scr (own_blk x4 x5 x6 x7))) (13 : Int32)) * (5 : Int32)))])) rfl (hb hby d_prog_21_method_2_code_77) _ ?_
    show Steps p.tables e below (T99.setTop (mkF m 79 #[.val (.ref a1), .val (.int ((own_mb (0 : Int32) (own_blk x0 x1 x2 x3)) ^^^ (own_scr (own_blk x4 x5 x6 x7)))), .val (.int 8), .val (.int 4), .val (.int (own_blk x4 x5 x6 x7))] [(.int (-430675100)), (.int ((own_rotl ((own_mb (0 : Int32) (own_blk x0 x1 x2 x3)) ^^^ (own_scr (own_blk x4 x5 x6 x7))) (13 : Int32)) * (5 : Int32)))])) _
    refine own_iadd X99.here hx (hb hby d_prog_21_method_2_code_79) ?_
    show Steps p.tables e below (T99.setTop (mkF m 80 #[.val (.ref a1), .val (.int ((own_mb (0 : Int32) (own_blk x0 x1 x2 x3)) ^^^ (own_scr (own_blk x4 x5 x6 x7)))), .val (.int 8), .val (.int 4), .val (.int (own_blk x4 x5 x6 x7))] [(.int (own_mb (own_mb (0 : Int32) (own_blk x0 x1 x2 x3)) (own_blk x4 x5 x6 x7)))])) _
    refine own_istoreN X99.here hx (hb hby d_prog_21_method_2_code_80) (l' := #[.val (.ref a1), .val (.int (own_mb (own_mb (0 : Int32) (own_blk x0 x1 x2 x3)) (own_blk x4 x5 x6 x7))), .val (.int 8), .val (.int 4), .val (.int (own_blk x4 x5 x6 x7))]) rfl ?_
    refine own_iinc X99.here hx (4 : Int32) (hb hby d_prog_21_method_2_code_81) rfl rfl (l' := #[.val (.ref a1), .val (.int (own_mb (own_mb (0 : Int32) (own_blk x0 x1 x2 x3)) (own_blk x4 x5 x6 x7))), .val (.int 8), .val (.int 8), .val (.int (own_blk x4 x5 x6 x7))]) rfl ?_
    refine own_goto X99.here hx 84 12 rfl (hb hby d_prog_21_method_2_code_84) (by decide) (by decide) ?_
    refine own_iloadN X99.here hx (hb hby d_prog_21_method_2_code_12) rfl ?_
    refine own_iloadN X99.here hx (hb hby d_prog_21_method_2_code_13) rfl ?_
    refine own_icmpYes X99.here hx 14 87 rfl (hb hby d_prog_21_method_2_code_14) (flt (by decide : ¬ ((8 : Int32) < (8 : Int32)))).2.1 (by decide) (by decide) ?_
    refine own_iconst X99.here hx (0 : Int32) (hb hby d_prog_21_method_2_code_87) rfl ?_
    refine own_istoreN X99.here hx (hb hby d_prog_21_method_2_code_88) (l' := #[.val (.ref a1), .val (.int (own_mb (own_mb (0 : Int32) (own_blk x0 x1 x2 x3)) (own_blk x4 x5 x6 x7))), .val (.int 8), .val (.int 0), .val (.int (own_blk x4 x5 x6 x7))]) rfl ?_
    refine own_aloadN X99.here hx (hb hby d_prog_21_method_2_code_89) rfl rfl ?_
    refine X99.arraylength hx (by rw [e99]; exact Ar100.1) (State.isArrayOf_alike hZ.alike Ar100.2.1) (g := (mkF m 90 #[.val (.ref a1), .val (.int (own_mb (own_mb (0 : Int32) (own_blk x0 x1 x2 x3)) (own_blk x4 x5 x6 x7))), .val (.int 8), .val (.int 0), .val (.int (own_blk x4 x5 x6 x7))] [(.ref a1)])) rfl rfl (hb hby d_prog_21_method_2_code_90) _ ?_
    rw [len_of S100 M100]
    show Steps p.tables e below (T99.setTop (mkF m 91 #[.val (.ref a1), .val (.int (own_mb (own_mb (0 : Int32) (own_blk x0 x1 x2 x3)) (own_blk x4 x5 x6 x7))), .val (.int 8), .val (.int 0), .val (.int (own_blk x4 x5 x6 x7))] [(.int 8)])) _
    refine own_iconst X99.here hx (1 : Int32) (hb hby d_prog_21_method_2_code_91) rfl ?_
    refine own_isub X99.here hx (hb hby d_prog_21_method_2_code_92) ?_
    show Steps p.tables e below (T99.setTop (mkF m 93 #[.val (.ref a1), .val (.int (own_mb (own_mb (0 : Int32) (own_blk x0 x1 x2 x3)) (own_blk x4 x5 x6 x7))), .val (.int 8), .val (.int 0), .val (.int (own_blk x4 x5 x6 x7))] [(.int 7)])) _
    refine own_istore X99.here hx (hb hby d_prog_21_method_2_code_93) (l' := #[.val (.ref a1), .val (.int (own_mb (own_mb (0 : Int32) (own_blk x0 x1 x2 x3)) (own_blk x4 x5 x6 x7))), .val (.int 8), .val (.int 0), .val (.int 7)]) rfl ?_
    refine own_iload X99.here hx (hb hby d_prog_21_method_2_code_95) rfl ?_
    refine own_iloadN X99.here hx (hb hby d_prog_21_method_2_code_97) rfl ?_
    refine own_icmpYes X99.here hx 98 121 rfl (hb hby d_prog_21_method_2_code_98) (tlt (by decide : (7 : Int32) < (8 : Int32))).1 (by decide) (by decide) ?_
    refine own_iloadN X99.here hx (hb hby d_prog_21_method_2_code_121) rfl ?_
    refine own_iloadN X99.here hx (hb hby d_prog_21_method_2_code_122) rfl ?_
    refine st101 _ ?_
    show Steps p.tables e below (T101.setTop (mkF m 126 #[.val (.ref a1), .val (.int (own_mb (own_mb (0 : Int32) (own_blk x0 x1 x2 x3)) (own_blk x4 x5 x6 x7))), .val (.int 8), .val (.int 0), .val (.int 7)] [(.int (own_scr (0 : Int32))), (.int (own_mb (own_mb (0 : Int32) (own_blk x0 x1 x2 x3)) (own_blk x4 x5 x6 x7)))])) _
    refine own_ixor X101.here hx (hb hby d_prog_21_method_2_code_126) ?_
    refine own_istoreN X101.here hx (hb hby d_prog_21_method_2_code_127) (l' := #[.val (.ref a1), .val (.int ((own_mb (own_mb (0 : Int32) (own_blk x0 x1 x2 x3)) (own_blk x4 x5 x6 x7)) ^^^ (own_scr (0 : Int32)))), .val (.int 8), .val (.int 0), .val (.int 7)]) rfl ?_
    refine own_iloadN X101.here hx (hb hby d_prog_21_method_2_code_128) rfl ?_
    refine own_aloadN X101.here hx (hb hby d_prog_21_method_2_code_129) rfl rfl ?_
    refine X101.arraylength hx (by rw [e101]; exact Ar102.1) (State.isArrayOf_alike hZ.alike Ar102.2.1) (g := (mkF m 130 #[.val (.ref a1), .val (.int ((own_mb (own_mb (0 : Int32) (own_blk x0 x1 x2 x3)) (own_blk x4 x5 x6 x7)) ^^^ (own_scr (0 : Int32)))), .val (.int 8), .val (.int 0), .val (.int 7)] [(.ref a1), (.int ((own_mb (own_mb (0 : Int32) (own_blk x0 x1 x2 x3)) (own_blk x4 x5 x6 x7)) ^^^ (own_scr (0 : Int32))))])) rfl rfl (hb hby d_prog_21_method_2_code_130) _ ?_
    rw [len_of S102 M102]
    show Steps p.tables e below (T101.setTop (mkF m 131 #[.val (.ref a1), .val (.int ((own_mb (own_mb (0 : Int32) (own_blk x0 x1 x2 x3)) (own_blk x4 x5 x6 x7)) ^^^ (own_scr (0 : Int32)))), .val (.int 8), .val (.int 0), .val (.int 7)] [(.int 8), (.int ((own_mb (own_mb (0 : Int32) (own_blk x0 x1 x2 x3)) (own_blk x4 x5 x6 x7)) ^^^ (own_scr (0 : Int32))))])) _
    refine own_ixor X101.here hx (hb hby d_prog_21_method_2_code_131) ?_
    refine own_istoreN X101.here hx (hb hby d_prog_21_method_2_code_132) (l' := #[.val (.ref a1), .val (.int (((own_mb (own_mb (0 : Int32) (own_blk x0 x1 x2 x3)) (own_blk x4 x5 x6 x7)) ^^^ (own_scr (0 : Int32))) ^^^ (8 : Int32))), .val (.int 8), .val (.int 0), .val (.int 7)]) rfl ?_
    refine own_iloadN X101.here hx (hb hby d_prog_21_method_2_code_133) rfl ?_
    refine st103 _ ?_
    show Steps p.tables e below (T103.setTop (mkF m 137 #[.val (.ref a1), .val (.int (((own_mb (own_mb (0 : Int32) (own_blk x0 x1 x2 x3)) (own_blk x4 x5 x6 x7)) ^^^ (own_scr (0 : Int32))) ^^^ (8 : Int32))), .val (.int 8), .val (.int 0), .val (.int 7)] [(.int (own_fin (((own_mb (own_mb (0 : Int32) (own_blk x0 x1 x2 x3)) (own_blk x4 x5 x6 x7)) ^^^ (own_scr (0 : Int32))) ^^^ (8 : Int32))))])) _
    exact retI X103 hx Bd.returns (hb hby d_prog_21_method_2_code_137) hr
  · show QH_8 Z a1 k1 x0 x1 x2 x3 x4 x5 x6 x7 h0 n0 _ T103.heap _
    rw [e103]
    exact ⟨rfl, N103, rfl⟩
theorem ef_rmH_9 (m : MethodId) (x0 : Addr) : entryFrame m #[(.ref x0)] 5 = mkF m 0 #[.val (.ref x0), .unset, .unset, .unset, .unset] [] := by first | (simp [entryFrame, mkF, argsToLocals, Value.category]; done) | rfl
def QH_9 (Z : State) (a1 : Addr) (k1 : ClassId) (x0 : Int32) (x1 : Int32) (x2 : Int32) (x3 : Int32) (x4 : Int32) (x5 : Int32) (x6 : Int32) (x7 : Int32) (x8 : Int32) (h0 : Heap) (n0 : Nat) (v : Option Value) (h : Heap) (L : List Loc) : Prop := v = some (.int (own_fin (((own_mb (own_mb (0 : Int32) (own_blk x0 x1 x2 x3)) (own_blk x4 x5 x6 x7)) ^^^ (own_scr (own_t1 x8))) ^^^ (9 : Int32)))) ∧ Fr n0 L ∧ h = h0
set_option maxRecDepth 65536 in
set_option maxHeartbeats 40000000 in
theorem rmH_9 (l : Launch) (Z : State) (a0 : Array Value) (hw : ∀ d ∈ tables_1, d.before a0 Z = true) (ws : List Jvm.Cond) (a1 : Addr) (k1 : ClassId) (x0 : Int32) (x1 : Int32) (x2 : Int32) (x3 : Int32) (x4 : Int32) (x5 : Int32) (x6 : Int32) (x7 : Int32) (x8 : Int32) (h0 : Heap) (n0 : Nat) (Z0 : n0 ≤ h0.size) (V1 : Arv Z h0 a1 k1 .byte (9 : Int32) [(.int x0), (.int x1), (.int x2), (.int x3), (.int x4), (.int x5), (.int x6), (.int x7), (.int x8)] (.int (0 : Int32))) :
    MetFree l (⟨"com/example/forkline/forkline/bucketing/MurmurHash3", "hash32", "([B)I"⟩ : MethodName) (head1 (Jvm.Cond.code (⟨"com/example/forkline/forkline/bucketing/MurmurHash3", "hash32", "([B)I"⟩ : MethodName) prog_21_method_2_code 5 (some .int) :: ws) ({ frames := 2, cells := 0, slots := 0, locals := 26 } : Room)) (fun a U => a = #[(.ref a1)] ∧ Z.Warmed39 U.vm ∧ U.heap = h0) (fun _ _ _ _ _ => True) (fun _ U o U' => ∃ v L, o = .returned v ∧ QH_9 Z a1 k1 x0 x1 x2 x3 x4 x5 x6 x7 x8 h0 n0 v U'.heap L ∧ FrameEnd U o U' L ({ frames := 2, cells := 0, slots := 0, locals := 26 } : Room).cells ({ frames := 2, cells := 0, slots := 0, locals := 26 } : Room).slots) := by
  refine MetFree.of_bodySF (plainFor_of_name pn_com_example_forkline_forkline_bucketing_MurmurHash3) hisR ?_
  intro p e s m args below meth c s₁ Bd hml0 hP hK
  obtain ⟨rfl, hZ, hh⟩ := hP
  have hx := Bd.exec
  have hby := Bd.bytes
  have hml : c.maxLocals = 5 := hml0
  have hown : s.vm.findClass "com/example/forkline/forkline/bucketing/MurmurHash3" = some m.cls := findClass_of_methodNamed Bd.named
  have hnm := (name_of_methodNamed Bd.named Bd.method).1
  have X0 : Stand p l e ({ frames := 2, cells := 0, slots := 0, locals := 26 } : Room) s m #[(.ref a1)] below meth c s₁ [] 0 0 := Stand.of_body Bd
  have e0 : s₁.heap = h0 := by rw [← hh, Bd.state]; rfl
  have N0 := Fr.nil n0
  have pre0 : ∀ tG, Steps p.tables e below (s₁.setTop (mkF m 0 #[.val (.ref a1), .unset, .unset, .unset, .unset] [])) tG → Steps p.tables e below (s₁.setTop (entryFrame m #[(.ref a1)] 5)) tG := fun tG kG => castTop (ef_rmH_9 m a1) kG
  obtain ⟨cl104, Ar104, -, S104, M104, -, -⟩ := id V1
  obtain ⟨cl105, Ar105, -, S105, M105, -, -⟩ := id V1
  obtain ⟨cl106, Ar106, q106, S106, M106, H106, J106⟩ := id V1
  have hin106 : ¬ ((0 : Int32) < 0 ∨ cl106.slots.size ≤ ((0 : Int32)).toNatClampNeg) := inb_of S106 ⟨by decide, by decide⟩
  have hat106 : cl106.slots[((0 : Int32)).toNatClampNeg]? = some (.int x0) := Has.at H106 hin106 rfl
  obtain ⟨cl107, Ar107, q107, S107, M107, H107, J107⟩ := id V1
  have hin107 : ¬ ((1 : Int32) < 0 ∨ cl107.slots.size ≤ ((1 : Int32)).toNatClampNeg) := inb_of S107 ⟨by decide, by decide⟩
  have hat107 : cl107.slots[((1 : Int32)).toNatClampNeg]? = some (.int x1) := Has.at H107 hin107 rfl
  obtain ⟨cl108, Ar108, q108, S108, M108, H108, J108⟩ := id V1
  have hin108 : ¬ ((2 : Int32) < 0 ∨ cl108.slots.size ≤ ((2 : Int32)).toNatClampNeg) := inb_of S108 ⟨by decide, by decide⟩
  have hat108 : cl108.slots[((2 : Int32)).toNatClampNeg]? = some (.int x2) := Has.at H108 hin108 rfl
  obtain ⟨cl109, Ar109, q109, S109, M109, H109, J109⟩ := id V1
  have hin109 : ¬ ((3 : Int32) < 0 ∨ cl109.slots.size ≤ ((3 : Int32)).toNatClampNeg) := inb_of S109 ⟨by decide, by decide⟩
  have hat109 : cl109.slots[((3 : Int32)).toNatClampNeg]? = some (.int x3) := Has.at H109 hin109 rfl
  obtain ⟨_, _, ⟨T110, L110, k110, n110⟩, -, X110, ⟨Lc110, hQ110, l110, y110, z110⟩, st110⟩ := Jvm.LawKit.callS X0 hx (y := (⟨"com/example/forkline/forkline/bucketing/MurmurHash3", "scramble", "(I)I"⟩ : MethodName)) hown (mvT hZ (hw _ (List.mem_of_getElem? (i := 8) rfl))) (mvT hZ (hw _ (List.mem_of_getElem? (i := 9) rfl))) (mvT hZ (hw _ (List.mem_of_getElem? (i := 6) rfl))) (mvT hZ (hw _ (List.mem_of_getElem? (i := 10) rfl))) (by decide) (backOf (W := 1) (rm2 l Z a0 hw [] (own_blk x0 x1 x2 x3) h0 n0 Z0) hZ (hw _ (List.mem_of_getElem? (i := 10) rfl)) (hw _ (List.mem_of_getElem? (i := 6) rfl)) (by decide) (by decide)) (g := (mkF m 64 #[.val (.ref a1), .val (.int 0), .val (.int 8), .val (.int 0), .val (.int (own_blk x0 x1 x2 x3))] [(.int (own_blk x0 x1 x2 x3)), (.int 0)])) rfl (by rw [hml]; rfl) (argsL := [(.int (own_blk x0 x1 x2 x3))]) (rest := [(.int 0)]) (lenOf pd_28I29I rfl) rfl (by show 2 * 0 + _ ≤ _; exact Nat.le_of_eq rfl) (hb hby d_prog_21_method_2_code_64) (fun _ _ => ⟨rfl, e0, (by decide : 0 + 0 ≤ _), (by decide : 0 + 0 ≤ _)⟩)
  dsimp only [Pt.U, Pt.locs, Pt.cells, Pt.slots] at X110 l110 y110 z110 st110 hQ110
  subst l110 y110 z110
  obtain ⟨rfl, N110q, e110⟩ := hQ110
  have N110 := Fr.app N0 N110q
  obtain ⟨_, _, ⟨T111, L111, k111, n111⟩, -, X111, ⟨Lc111, hQ111, l111, y111, z111⟩, st111⟩ := Jvm.LawKit.callS X110 hx (y := (⟨"java/lang/Integer", "rotateLeft", "(II)I"⟩ : MethodName)) hown (mvT hZ (hw _ (List.mem_of_getElem? (i := 12) rfl))) (mvT hZ (hw _ (List.mem_of_getElem? (i := 13) rfl))) (mvT hZ (hw _ (List.mem_of_getElem? (i := 14) rfl))) (mvT hZ (hw _ (List.mem_of_getElem? (i := 15) rfl))) (by decide) (backOf (W := 0) (rm1 l Z a0 hw [] ((0 : Int32) ^^^ (own_scr (own_blk x0 x1 x2 x3))) (13 : Int32) h0 n0 Z0) hZ (hw _ (List.mem_of_getElem? (i := 15) rfl)) (hw _ (List.mem_of_getElem? (i := 14) rfl)) (by decide) (by decide)) (g := (mkF m 72 #[.val (.ref a1), .val (.int ((0 : Int32) ^^^ (own_scr (own_blk x0 x1 x2 x3)))), .val (.int 8), .val (.int 0), .val (.int (own_blk x0 x1 x2 x3))] [(.int 13), (.int ((0 : Int32) ^^^ (own_scr (own_blk x0 x1 x2 x3))))])) rfl (by rw [hml]; rfl) (argsL := [(.int ((0 : Int32) ^^^ (own_scr (own_blk x0 x1 x2 x3)))), (.int 13)]) (rest := []) (lenOf pd_28II29I rfl) rfl (by show 2 * 0 + _ ≤ _; exact Nat.le_of_eq rfl) (hb hby d_prog_21_method_2_code_72) (fun _ _ => ⟨rfl, e110, (by decide : 0 + 0 ≤ _), (by decide : 0 + 0 ≤ _)⟩)
  dsimp only [Pt.U, Pt.locs, Pt.cells, Pt.slots] at X111 l111 y111 z111 st111 hQ111
  subst l111 y111 z111
  obtain ⟨rfl, N111q, e111⟩ := hQ111
  have N111 := Fr.app N110 N111q
  obtain ⟨cl112, Ar112, q112, S112, M112, H112, J112⟩ := id V1
  have hin112 : ¬ ((4 : Int32) < 0 ∨ cl112.slots.size ≤ ((4 : Int32)).toNatClampNeg) := inb_of S112 ⟨by decide, by decide⟩
  have hat112 : cl112.slots[((4 : Int32)).toNatClampNeg]? = some (.int x4) := Has.at H112 hin112 rfl
  obtain ⟨cl113, Ar113, q113, S113, M113, H113, J113⟩ := id V1
  have hin113 : ¬ ((5 : Int32) < 0 ∨ cl113.slots.size ≤ ((5 : Int32)).toNatClampNeg) := inb_of S113 ⟨by decide, by decide⟩
  have hat113 : cl113.slots[((5 : Int32)).toNatClampNeg]? = some (.int x5) := Has.at H113 hin113 rfl
  obtain ⟨cl114, Ar114, q114, S114, M114, H114, J114⟩ := id V1
  have hin114 : ¬ ((6 : Int32) < 0 ∨ cl114.slots.size ≤ ((6 : Int32)).toNatClampNeg) := inb_of S114 ⟨by decide, by decide⟩
  have hat114 : cl114.slots[((6 : Int32)).toNatClampNeg]? = some (.int x6) := Has.at H114 hin114 rfl
  obtain ⟨cl115, Ar115, q115, S115, M115, H115, J115⟩ := id V1
  have hin115 : ¬ ((7 : Int32) < 0 ∨ cl115.slots.size ≤ ((7 : Int32)).toNatClampNeg) := inb_of S115 ⟨by decide, by decide⟩
  have hat115 : cl115.slots[((7 : Int32)).toNatClampNeg]? = some (.int x7) := Has.at H115 hin115 rfl
  obtain ⟨_, _, ⟨T116, L116, k116, n116⟩, -, X116, ⟨Lc116, hQ116, l116, y116, z116⟩, st116⟩ := Jvm.LawKit.callS X111 hx (y := (⟨"com/example/forkline/forkline/bucketing/MurmurHash3", "scramble", "(I)I"⟩ : MethodName)) hown (mvT hZ (hw _ (List.mem_of_getElem? (i := 8) rfl))) (mvT hZ (hw _ (List.mem_of_getElem? (i := 9) rfl))) (mvT hZ (hw _ (List.mem_of_getElem? (i := 6) rfl))) (mvT hZ (hw _ (List.mem_of_getElem? (i := 10) rfl))) (by decide) (backOf (W := 1) (rm2 l Z a0 hw [] (own_blk x4 x5 x6 x7) h0 n0 Z0) hZ (hw _ (List.mem_of_getElem? (i := 10) rfl)) (hw _ (List.mem_of_getElem? (i := 6) rfl)) (by decide) (by decide)) (g := (mkF m 64 #[.val (.ref a1), .val (.int (own_mb (0 : Int32) (own_blk x0 x1 x2 x3))), .val (.int 8), .val (.int 4), .val (.int (own_blk x4 x5 x6 x7))] [(.int (own_blk x4 x5 x6 x7)), (.int (own_mb (0 : Int32) (own_blk x0 x1 x2 x3)))])) rfl (by rw [hml]; rfl) (argsL := [(.int (own_blk x4 x5 x6 x7))]) (rest := [(.int (own_mb (0 : Int32) (own_blk x0 x1 x2 x3)))]) (lenOf pd_28I29I rfl) rfl (by show 2 * 0 + _ ≤ _; exact Nat.le_of_eq rfl) (hb hby d_prog_21_method_2_code_64) (fun _ _ => ⟨rfl, e111, (by decide : 0 + 0 ≤ _), (by decide : 0 + 0 ≤ _)⟩)
  dsimp only [Pt.U, Pt.locs, Pt.cells, Pt.slots] at X116 l116 y116 z116 st116 hQ116
  subst l116 y116 z116
  obtain ⟨rfl, N116q, e116⟩ := hQ116
  have N116 := Fr.app N111 N116q
  obtain ⟨_, _, ⟨T117, L117, k117, n117⟩, -, X117, ⟨Lc117, hQ117, l117, y117, z117⟩, st117⟩ := Jvm.LawKit.callS X116 hx (y := (⟨"java/lang/Integer", "rotateLeft", "(II)I"⟩ : MethodName)) hown (mvT hZ (hw _ (List.mem_of_getElem? (i := 12) rfl))) (mvT hZ (hw _ (List.mem_of_getElem? (i := 13) rfl))) (mvT hZ (hw _ (List.mem_of_getElem? (i := 14) rfl))) (mvT hZ (hw _ (List.mem_of_getElem? (i := 15) rfl))) (by decide) (backOf (W := 0) (rm1 l Z a0 hw [] ((own_mb (0 : Int32) (own_blk x0 x1 x2 x3)) ^^^ (own_scr (own_blk x4 x5 x6 x7))) (13 : Int32) h0 n0 Z0) hZ (hw _ (List.mem_of_getElem? (i := 15) rfl)) (hw _ (List.mem_of_getElem? (i := 14) rfl)) (by decide) (by decide)) (g := (mkF m 72 #[.val (.ref a1), .val (.int ((own_mb (0 : Int32) (own_blk x0 x1 x2 x3)) ^^^ (own_scr (own_blk x4 x5 x6 x7)))), .val (.int 8), .val (.int 4), .val (.int (own_blk x4 x5 x6 x7))] [(.int 13), (.int ((own_mb (0 : Int32) (own_blk x0 x1 x2 x3)) ^^^ (own_scr (own_blk x4 x5 x6 x7))))])) rfl (by rw [hml]; rfl) (argsL := [(.int ((own_mb (0 : Int32) (own_blk x0 x1 x2 x3)) ^^^ (own_scr (own_blk x4 x5 x6 x7)))), (.int 13)]) (rest := []) (lenOf pd_28II29I rfl) rfl (by show 2 * 0 + _ ≤ _; exact Nat.le_of_eq rfl) (hb hby d_prog_21_method_2_code_72) (fun _ _ => ⟨rfl, e116, (by decide : 0 + 0 ≤ _), (by decide : 0 + 0 ≤ _)⟩)
  dsimp only [Pt.U, Pt.locs, Pt.cells, Pt.slots] at X117 l117 y117 z117 st117 hQ117
  subst l117 y117 z117
  obtain ⟨rfl, N117q, e117⟩ := hQ117
  have N117 := Fr.app N116 N117q
  obtain ⟨cl118, Ar118, -, S118, M118, -, -⟩ := id V1
  obtain ⟨cl119, Ar119, q119, S119, M119, H119, J119⟩ := id V1
  have hin119 : ¬ ((8 : Int32) < 0 ∨ cl119.slots.size ≤ ((8 : Int32)).toNatClampNeg) := inb_of S119 ⟨by decide, by decide⟩
  have hat119 : cl119.slots[((8 : Int32)).toNatClampNeg]? = some (.int x8) := Has.at H119 hin119 rfl
  obtain ⟨_, _, ⟨T120, L120, k120, n120⟩, -, X120, ⟨Lc120, hQ120, l120, y120, z120⟩, st120⟩ := Jvm.LawKit.callS X117 hx (y := (⟨"com/example/forkline/forkline/bucketing/MurmurHash3", "scramble", "(I)I"⟩ : MethodName)) hown (mvT hZ (hw _ (List.mem_of_getElem? (i := 8) rfl))) (mvT hZ (hw _ (List.mem_of_getElem? (i := 9) rfl))) (mvT hZ (hw _ (List.mem_of_getElem? (i := 6) rfl))) (mvT hZ (hw _ (List.mem_of_getElem? (i := 10) rfl))) (by decide) (backOf (W := 1) (rm2 l Z a0 hw [] (own_t1 x8) h0 n0 Z0) hZ (hw _ (List.mem_of_getElem? (i := 10) rfl)) (hw _ (List.mem_of_getElem? (i := 6) rfl)) (by decide) (by decide)) (g := (mkF m 123 #[.val (.ref a1), .val (.int (own_mb (own_mb (0 : Int32) (own_blk x0 x1 x2 x3)) (own_blk x4 x5 x6 x7))), .val (.int 8), .val (.int (own_t1 x8)), .val (.int 7)] [(.int (own_t1 x8)), (.int (own_mb (own_mb (0 : Int32) (own_blk x0 x1 x2 x3)) (own_blk x4 x5 x6 x7)))])) rfl (by rw [hml]; rfl) (argsL := [(.int (own_t1 x8))]) (rest := [(.int (own_mb (own_mb (0 : Int32) (own_blk x0 x1 x2 x3)) (own_blk x4 x5 x6 x7)))]) (lenOf pd_28I29I rfl) rfl (by show 2 * 0 + _ ≤ _; exact Nat.le_of_eq rfl) (hb hby d_prog_21_method_2_code_123) (fun _ _ => ⟨rfl, e117, (by decide : 0 + 0 ≤ _), (by decide : 0 + 0 ≤ _)⟩)
  dsimp only [Pt.U, Pt.locs, Pt.cells, Pt.slots] at X120 l120 y120 z120 st120 hQ120
  subst l120 y120 z120
  obtain ⟨rfl, N120q, e120⟩ := hQ120
  have N120 := Fr.app N117 N120q
  obtain ⟨cl121, Ar121, -, S121, M121, -, -⟩ := id V1
  obtain ⟨_, _, ⟨T122, L122, k122, n122⟩, -, X122, ⟨Lc122, hQ122, l122, y122, z122⟩, st122⟩ := Jvm.LawKit.callS X120 hx (y := (⟨"com/example/forkline/forkline/bucketing/MurmurHash3", "finalMix", "(I)I"⟩ : MethodName)) hown (mvT hZ (hw _ (List.mem_of_getElem? (i := 17) rfl))) (mvT hZ (hw _ (List.mem_of_getElem? (i := 18) rfl))) (mvT hZ (hw _ (List.mem_of_getElem? (i := 6) rfl))) (mvT hZ (hw _ (List.mem_of_getElem? (i := 19) rfl))) (by decide) (backOf (W := 0) (rm3 l Z a0 hw [] (((own_mb (own_mb (0 : Int32) (own_blk x0 x1 x2 x3)) (own_blk x4 x5 x6 x7)) ^^^ (own_scr (own_t1 x8))) ^^^ (9 : Int32)) h0 n0 Z0) hZ (hw _ (List.mem_of_getElem? (i := 19) rfl)) (hw _ (List.mem_of_getElem? (i := 6) rfl)) (by decide) (by decide)) (g := (mkF m 134 #[.val (.ref a1), .val (.int (((own_mb (own_mb (0 : Int32) (own_blk x0 x1 x2 x3)) (own_blk x4 x5 x6 x7)) ^^^ (own_scr (own_t1 x8))) ^^^ (9 : Int32))), .val (.int 8), .val (.int (own_t1 x8)), .val (.int 7)] [(.int (((own_mb (own_mb (0 : Int32) (own_blk x0 x1 x2 x3)) (own_blk x4 x5 x6 x7)) ^^^ (own_scr (own_t1 x8))) ^^^ (9 : Int32)))])) rfl (by rw [hml]; rfl) (argsL := [(.int (((own_mb (own_mb (0 : Int32) (own_blk x0 x1 x2 x3)) (own_blk x4 x5 x6 x7)) ^^^ (own_scr (own_t1 x8))) ^^^ (9 : Int32)))]) (rest := []) (lenOf pd_28I29I rfl) rfl (by show 2 * 0 + _ ≤ _; exact Nat.le_of_eq rfl) (hb hby d_prog_21_method_2_code_134) (fun _ _ => ⟨rfl, e120, (by decide : 0 + 0 ≤ _), (by decide : 0 + 0 ≤ _)⟩)
  dsimp only [Pt.U, Pt.locs, Pt.cells, Pt.slots] at X122 l122 y122 z122 st122 hQ122
  subst l122 y122 z122
  obtain ⟨rfl, N122q, e122⟩ := hQ122
  have N122 := Fr.app N120 N122q
  obtain ⟨fs, hr, hrun, hended, hW, hsame⟩ := X122.leave (v := some (.int (own_fin (((own_mb (own_mb (0 : Int32) (own_blk x0 x1 x2 x3)) (own_blk x4 x5 x6 x7)) ^^^ (own_scr (own_t1 x8))) ^^^ (9 : Int32))))) (fun h => by rw [Bd.returns] at h; cases h)
  refine ⟨_, _, pre0 _ ?_, hrun, hended, _, _, rfl, ?_, ⟨_, rfl⟩, hW, hsame.mono (by decide) (by decide)⟩
  · refine own_iconst X0.here hx (0 : Int32) (hb hby d_prog_21_method_2_code_0) rfl ?_
    refine own_istoreN X0.here hx (hb hby d_prog_21_method_2_code_1) (l' := #[.val (.ref a1), .val (.int 0), .unset, .unset, .unset]) rfl ?_
    refine own_aloadN X0.here hx (hb hby d_prog_21_method_2_code_2) rfl rfl ?_
    refine X0.arraylength hx (by rw [e0]; exact Ar104.1) (State.isArrayOf_alike hZ.alike Ar104.2.1) (g := (mkF m 3 #[.val (.ref a1), .val (.int 0), .unset, .unset, .unset] [(.ref a1)])) rfl rfl (hb hby d_prog_21_method_2_code_3) _ ?_
    rw [len_of S104 M104]
    show Steps p.tables e below (s₁.setTop (mkF m 4 #[.val (.ref a1), .val (.int 0), .unset, .unset, .unset] [(.int 9)])) _
    refine own_aloadN X0.here hx (hb hby d_prog_21_method_2_code_4) rfl rfl ?_
    refine X0.arraylength hx (by rw [e0]; exact Ar105.1) (State.isArrayOf_alike hZ.alike Ar105.2.1) (g := (mkF m 5 #[.val (.ref a1), .val (.int 0), .unset, .unset, .unset] [(.ref a1), (.int 9)])) rfl rfl (hb hby d_prog_21_method_2_code_5) _ ?_
    rw [len_of S105 M105]
    show Steps p.tables e below (s₁.setTop (mkF m 6 #[.val (.ref a1), .val (.int 0), .unset, .unset, .unset] [(.int 9), (.int 9)])) _
    refine own_iconst X0.here hx (4 : Int32) (hb hby d_prog_21_method_2_code_6) rfl ?_
    refine own_irem X0.here hx (hb hby d_prog_21_method_2_code_7) (by decide) ?_
    show Steps p.tables e below (s₁.setTop (mkF m 8 #[.val (.ref a1), .val (.int 0), .unset, .unset, .unset] [(.int 1), (.int 9)])) _
    refine own_isub X0.here hx (hb hby d_prog_21_method_2_code_8) ?_
    show Steps p.tables e below (s₁.setTop (mkF m 9 #[.val (.ref a1), .val (.int 0), .unset, .unset, .unset] [(.int 8)])) _
    refine own_istoreN X0.here hx (hb hby d_prog_21_method_2_code_9) (l' := #[.val (.ref a1), .val (.int 0), .val (.int 8), .unset, .unset]) rfl ?_
    refine own_iconst X0.here hx (0 : Int32) (hb hby d_prog_21_method_2_code_10) rfl ?_
    refine own_istoreN X0.here hx (hb hby d_prog_21_method_2_code_11) (l' := #[.val (.ref a1), .val (.int 0), .val (.int 8), .val (.int 0), .unset]) rfl ?_
    refine own_iloadN X0.here hx (hb hby d_prog_21_method_2_code_12) rfl ?_
    refine own_iloadN X0.here hx (hb hby d_prog_21_method_2_code_13) rfl ?_
    refine own_icmpNo X0.here hx (hb hby d_prog_21_method_2_code_14) (tlt (by decide : (0 : Int32) < (8 : Int32))).2.1 ?_
    refine own_aloadN X0.here hx (hb hby d_prog_21_method_2_code_17) rfl rfl ?_
    refine own_iloadN X0.here hx (hb hby d_prog_21_method_2_code_18) rfl ?_
    refine X0.baloadBytes hx (j := (0 : Int32)) (v := (.int x0)) (by rw [e0]; exact Ar106.1) (State.isArrayOf_alike hZ.alike Ar106.2.1) Ar106.2.2 hin106 hat106 (g := (mkF m 19 #[.val (.ref a1), .val (.int 0), .val (.int 8), .val (.int 0), .unset] [(.int 0), (.ref a1)])) rfl rfl (hb hby d_prog_21_method_2_code_19) _ ?_
    show Steps p.tables e below (s₁.setTop (mkF m 20 #[.val (.ref a1), .val (.int 0), .val (.int 8), .val (.int 0), .unset] [(.int x0)])) _
    refine own_sipush X0.here hx (255 : Int32) (hb hby d_prog_21_method_2_code_20) rfl ?_
    refine own_iand X0.here hx (hb hby d_prog_21_method_2_code_23) ?_
    refine own_aloadN X0.here hx (hb hby d_prog_21_method_2_code_24) rfl rfl ?_
    refine own_iloadN X0.here hx (hb hby d_prog_21_method_2_code_25) rfl ?_
    refine own_iconst X0.here hx (1 : Int32) (hb hby d_prog_21_method_2_code_26) rfl ?_
    refine own_iadd X0.here hx (hb hby d_prog_21_method_2_code_27) ?_
    show Steps p.tables e below (s₁.setTop (mkF m 28 #[.val (.ref a1), .val (.int 0), .val (.int 8), .val (.int 0), .unset] [(.int 1), (.ref a1), (.int (x0 &&& (255 : Int32)))])) _
    refine X0.baloadBytes hx (j := (1 : Int32)) (v := (.int x1)) (by rw [e0]; exact Ar107.1) (State.isArrayOf_alike hZ.alike Ar107.2.1) Ar107.2.2 hin107 hat107 (g := (mkF m 28 #[.val (.ref a1), .val (.int 0), .val (.int 8), .val (.int 0), .unset] [(.int 1), (.ref a1), (.int (x0 &&& (255 : Int32)))])) rfl rfl (hb hby d_prog_21_method_2_code_28) _ ?_
    show Steps p.tables e below (s₁.setTop (mkF m 29 #[.val (.ref a1), .val (.int 0), .val (.int 8), .val (.int 0), .unset] [(.int x1), (.int (x0 &&& (255 : Int32)))])) _
    refine own_sipush X0.here hx (255 : Int32) (hb hby d_prog_21_method_2_code_29) rfl ?_
    refine own_iand X0.here hx (hb hby d_prog_21_method_2_code_32) ?_
    refine own_bipush X0.here hx (8 : Int32) (hb hby d_prog_21_method_2_code_33) rfl ?_
    refine own_ishl X0.here hx (hb hby d_prog_21_method_2_code_35) ?_
    refine own_ior X0.here hx (hb hby d_prog_21_method_2_code_36) ?_
    refine own_aloadN X0.here hx (hb hby d_prog_21_method_2_code_37) rfl rfl ?_
    refine own_iloadN X0.here hx (hb hby d_prog_21_method_2_code_38) rfl ?_
    refine own_iconst X0.here hx (2 : Int32) (hb hby d_prog_21_method_2_code_39) rfl ?_
    refine own_iadd X0.here hx (hb hby d_prog_21_method_2_code_40) ?_
    show Steps p.tables e below (s₁.setTop (mkF m 41 #[.val (.ref a1), .val (.int 0), .val (.int 8), .val (.int 0), .unset] [(.int 2), (.ref a1), (.int ((x0 &&& (255 : Int32)) ||| ((x1 &&& (255 : Int32)) <<< ((8 : Int32) &&& 31))))])) _
    refine X0.baloadBytes hx (j := (2 : Int32)) (v := (.int x2)) (by rw [e0]; exact Ar108.1) (State.isArrayOf_alike hZ.alike Ar108.2.1) Ar108.2.2 hin108 hat108 (g := (mkF m 41 #[.val (.ref a1), .val (.int 0), .val (.int 8), .val (.int 0), .unset] [(.int 2), (.ref a1), (.int ((x0 &&& (255 : Int32)) ||| ((x1 &&& (255 : Int32)) <<< ((8 : Int32) &&& 31))))])) rfl rfl (hb hby d_prog_21_method_2_code_41) _ ?_
    show Steps p.tables e below (s₁.setTop (mkF m 42 #[.val (.ref a1), .val (.int 0), .val (.int 8), .val (.int 0), .unset] [(.int x2), (.int ((x0 &&& (255 : Int32)) ||| ((x1 &&& (255 : Int32)) <<< ((8 : Int32) &&& 31))))])) _
    refine own_sipush X0.here hx (255 : Int32) (hb hby d_prog_21_method_2_code_42) rfl ?_
    refine own_iand X0.here hx (hb hby d_prog_21_method_2_code_45) ?_
    refine own_bipush X0.here hx (16 : Int32) (hb hby d_prog_21_method_2_code_46) rfl ?_
    refine own_ishl X0.here hx (hb hby d_prog_21_method_2_code_48) ?_
    refine own_ior X0.here hx (hb hby d_prog_21_method_2_code_49) ?_
    refine own_aloadN X0.here hx (hb hby d_prog_21_method_2_code_50) rfl rfl ?_
    refine own_iloadN X0.here hx (hb hby d_prog_21_method_2_code_51) rfl ?_
    refine own_iconst X0.here hx (3 : Int32) (hb hby d_prog_21_method_2_code_52) rfl ?_
    refine own_iadd X0.here hx (hb hby d_prog_21_method_2_code_53) ?_
    show Steps p.tables e below (s₁.setTop (mkF m 54 #[.val (.ref a1), .val (.int 0), .val (.int 8), .val (.int 0), .unset] [(.int 3), (.ref a1), (.int (((x0 &&& (255 : Int32)) ||| ((x1 &&& (255 : Int32)) <<< ((8 : Int32) &&& 31))) ||| ((x2 &&& (255 : Int32)) <<< ((16 : Int32) &&& 31))))])) _
    refine X0.baloadBytes hx (j := (3 : Int32)) (v := (.int x3)) (by rw [e0]; exact Ar109.1) (State.isArrayOf_alike hZ.alike Ar109.2.1) Ar109.2.2 hin109 hat109 (g := (mkF m 54 #[.val (.ref a1), .val (.int 0), .val (.int 8), .val (.int 0), .unset] [(.int 3), (.ref a1), (.int (((x0 &&& (255 : Int32)) ||| ((x1 &&& (255 : Int32)) <<< ((8 : Int32) &&& 31))) ||| ((x2 &&& (255 : Int32)) <<< ((16 : Int32) &&& 31))))])) rfl rfl (hb hby d_prog_21_method_2_code_54) _ ?_
    show Steps p.tables e below (s₁.setTop (mkF m 55 #[.val (.ref a1), .val (.int 0), .val (.int 8), .val (.int 0), .unset] [(.int x3), (.int (((x0 &&& (255 : Int32)) ||| ((x1 &&& (255 : Int32)) <<< ((8 : Int32) &&& 31))) ||| ((x2 &&& (255 : Int32)) <<< ((16 : Int32) &&& 31))))])) _
    refine own_bipush X0.here hx (24 : Int32) (hb hby d_prog_21_method_2_code_55) rfl ?_
    refine own_ishl X0.here hx (hb hby d_prog_21_method_2_code_57) ?_
    refine own_ior X0.here hx (hb hby d_prog_21_method_2_code_58) ?_
    show Steps p.tables e below (s₁.setTop (mkF m 59 #[.val (.ref a1), .val (.int 0), .val (.int 8), .val (.int 0), .unset] [(.int (own_blk x0 x1 x2 x3))])) _
    refine own_istore X0.here hx (hb hby d_prog_21_method_2_code_59) (l' := #[.val (.ref a1), .val (.int 0), .val (.int 8), .val (.int 0), .val (.int (own_blk x0 x1 x2 x3))]) rfl ?_
    refine own_iloadN X0.here hx (hb hby d_prog_21_method_2_code_61) rfl ?_
    refine own_iload X0.here hx (hb hby d_prog_21_method_2_code_62) rfl ?_
    refine st110 _ ?_
    show Steps p.tables e below (T110.setTop (mkF m 67 #[.val (.ref a1), .val (.int 0), .val (.int 8), .val (.int 0), .val (.int (own_blk x0 x1 x2 x3))] [(.int (own_scr (own_blk x0 x1 x2 x3))), (.int 0)])) _
    refine own_ixor X110.here hx (hb hby d_prog_21_method_2_code_67) ?_
    refine own_istoreN X110.here hx (hb hby d_prog_21_method_2_code_68) (l' := #[.val (.ref a1), .val (.int ((0 : Int32) ^^^ (own_scr (own_blk x0 x1 x2 x3)))), .val (.int 8), .val (.int 0), .val (.int (own_blk x0 x1 x2 x3))]) rfl ?_
    refine own_iloadN X110.here hx (hb hby d_prog_21_method_2_code_69) rfl ?_
    refine own_bipush X110.here hx (13 : Int32) (hb hby d_prog_21_method_2_code_70) rfl ?_
    refine st111 _ ?_
    show Steps p.tables e below (T111.setTop (mkF m 75 #[.val (.ref a1), .val (.int ((0 : Int32) ^^^ (own_scr (own_blk x0 x1 x2 x3)))), .val (.int 8), .val (.int 0), .val (.int (own_blk x0 x1 x2 x3))] [(.int (own_rotl ((0 : Int32) ^^^ (own_scr (own_blk x0 x1 x2 x3))) (13 : Int32)))])) _
    refine own_iconst X111.here hx (5 : Int32) (hb hby d_prog_21_method_2_code_75) rfl ?_
    refine own_imul X111.here hx (hb hby d_prog_21_method_2_code_76) ?_
    refine X111.ldcInt hx hown (mvT hZ (hw _ (List.mem_of_getElem? (i := 29) rfl))) (g := (mkF m 77 #[.val (.ref a1), .val (.int ((0 : Int32) ^^^ (own_scr (own_blk x0 x1 x2 x3)))), .val (.int 8), .val (.int 0), .val (.int (own_blk x0 x1 x2 x3))] [(.int ((own_rotl ((0 : Int32) ^^^ (own_scr (own_blk x0 x1 x2 x3))) (13 : Int32)) * (5 : Int32)))])) rfl (hb hby d_prog_21_method_2_code_77) _ ?_
    show Steps p.tables e below (T111.setTop (mkF m 79 #[.val (.ref a1), .val (.int ((0 : Int32) ^^^ (own_scr (own_blk x0 x1 x2 x3)))), .val (.int 8), .val (.int 0), .val (.int (own_blk x0 x1 x2 x3))] [(.int (-430675100)), (.int ((own_rotl ((0 : Int32) ^^^ (own_scr (own_blk x0 x1 x2 x3))) (13 : Int32)) * (5 : Int32)))])) _
    refine own_iadd X111.here hx (hb hby d_prog_21_method_2_code_79) ?_
    show Steps p.tables e below (T111.setTop (mkF m 80 #[.val (.ref a1), .val (.int ((0 : Int32) ^^^ (own_scr (own_blk x0 x1 x2 x3)))), .val (.int 8), .val (.int 0), .val (.int (own_blk x0 x1 x2 x3))] [(.int (own_mb (0 : Int32) (own_blk x0 x1 x2 x3)))])) _
    refine own_istoreN X111.here hx (hb hby d_prog_21_method_2_code_80) (l' := #[.val (.ref a1), .val (.int (own_mb (0 : Int32) (own_blk x0 x1 x2 x3))), .val (.int 8), .val (.int 0), .val (.int (own_blk x0 x1 x2 x3))]) rfl ?_
    refine own_iinc X111.here hx (4 : Int32) (hb hby d_prog_21_method_2_code_81) rfl rfl (l' := #[.val (.ref a1), .val (.int (own_mb (0 : Int32) (own_blk x0 x1 x2 x3))), .val (.int 8), .val (.int 4), .val (.int (own_blk x0 x1 x2 x3))]) rfl ?_
    refine own_goto X111.here hx 84 12 rfl (hb hby d_prog_21_method_2_code_84) (by decide) (by decide) ?_
    refine own_iloadN X111.here hx (hb hby d_prog_21_method_2_code_12) rfl ?_
    refine own_iloadN X111.here hx (hb hby d_prog_21_method_2_code_13) rfl ?_
    refine own_icmpNo X111.here hx (hb hby d_prog_21_method_2_code_14) (tlt (by decide : (4 : Int32) < (8 : Int32))).2.1 ?_
    refine own_aloadN X111.here hx (hb hby d_prog_21_method_2_code_17) rfl rfl ?_
    refine own_iloadN X111.here hx (hb hby d_prog_21_method_2_code_18) rfl ?_
    refine X111.baloadBytes hx (j := (4 : Int32)) (v := (.int x4)) (by rw [e111]; exact Ar112.1) (State.isArrayOf_alike hZ.alike Ar112.2.1) Ar112.2.2 hin112 hat112 (g := (mkF m 19 #[.val (.ref a1), .val (.int (own_mb (0 : Int32) (own_blk x0 x1 x2 x3))), .val (.int 8), .val (.int 4), .val (.int (own_blk x0 x1 x2 x3))] [(.int 4), (.ref a1)])) rfl rfl (hb hby d_prog_21_method_2_code_19) _ ?_
    show Steps p.tables e below (T111.setTop (mkF m 20 #[.val (.ref a1), .val (.int (own_mb (0 : Int32) (own_blk x0 x1 x2 x3))), .val (.int 8), .val (.int 4), .val (.int (own_blk x0 x1 x2 x3))] [(.int x4)])) _
    refine own_sipush X111.here hx (255 : Int32) (hb hby d_prog_21_method_2_code_20) rfl ?_
    refine own_iand X111.here hx (hb hby d_prog_21_method_2_code_23) ?_
    refine own_aloadN X111.here hx (hb hby d_prog_21_method_2_code_24) rfl rfl ?_
    refine own_iloadN X111.here hx (hb hby d_prog_21_method_2_code_25) rfl ?_
    refine own_iconst X111.here hx (1 : Int32) (hb hby d_prog_21_method_2_code_26) rfl ?_
    refine own_iadd X111.here hx (hb hby d_prog_21_method_2_code_27) ?_
    show Steps p.tables e below (T111.setTop (mkF m 28 #[.val (.ref a1), .val (.int (own_mb (0 : Int32) (own_blk x0 x1 x2 x3))), .val (.int 8), .val (.int 4), .val (.int (own_blk x0 x1 x2 x3))] [(.int 5), (.ref a1), (.int (x4 &&& (255 : Int32)))])) _
    refine X111.baloadBytes hx (j := (5 : Int32)) (v := (.int x5)) (by rw [e111]; exact Ar113.1) (State.isArrayOf_alike hZ.alike Ar113.2.1) Ar113.2.2 hin113 hat113 (g := (mkF m 28 #[.val (.ref a1), .val (.int (own_mb (0 : Int32) (own_blk x0 x1 x2 x3))), .val (.int 8), .val (.int 4), .val (.int (own_blk x0 x1 x2 x3))] [(.int 5), (.ref a1), (.int (x4 &&& (255 : Int32)))])) rfl rfl (hb hby d_prog_21_method_2_code_28) _ ?_
    show Steps p.tables e below (T111.setTop (mkF m 29 #[.val (.ref a1), .val (.int (own_mb (0 : Int32) (own_blk x0 x1 x2 x3))), .val (.int 8), .val (.int 4), .val (.int (own_blk x0 x1 x2 x3))] [(.int x5), (.int (x4 &&& (255 : Int32)))])) _
    refine own_sipush X111.here hx (255 : Int32) (hb hby d_prog_21_method_2_code_29) rfl ?_
    refine own_iand X111.here hx (hb hby d_prog_21_method_2_code_32) ?_
    refine own_bipush X111.here hx (8 : Int32) (hb hby d_prog_21_method_2_code_33) rfl ?_
    refine own_ishl X111.here hx (hb hby d_prog_21_method_2_code_35) ?_
    refine own_ior X111.here hx (hb hby d_prog_21_method_2_code_36) ?_
    refine own_aloadN X111.here hx (hb hby d_prog_21_method_2_code_37) rfl rfl ?_
    refine own_iloadN X111.here hx (hb hby d_prog_21_method_2_code_38) rfl ?_
    refine own_iconst X111.here hx (2 : Int32) (hb hby d_prog_21_method_2_code_39) rfl ?_
    refine own_iadd X111.here hx (hb hby d_prog_21_method_2_code_40) ?_
    show Steps p.tables e below (T111.setTop (mkF m 41 #[.val (.ref a1), .val (.int (own_mb (0 : Int32) (own_blk x0 x1 x2 x3))), .val (.int 8), .val (.int 4), .val (.int (own_blk x0 x1 x2 x3))] [(.int 6), (.ref a1), (.int ((x4 &&& (255 : Int32)) ||| ((x5 &&& (255 : Int32)) <<< ((8 : Int32) &&& 31))))])) _
    refine X111.baloadBytes hx (j := (6 : Int32)) (v := (.int x6)) (by rw [e111]; exact Ar114.1) (State.isArrayOf_alike hZ.alike Ar114.2.1) Ar114.2.2 hin114 hat114 (g := (mkF m 41 #[.val (.ref a1), .val (.int (own_mb (0 : Int32) (own_blk x0 x1 x2 x3))), .val (.int 8), .val (.int 4), .val (.int (own_blk x0 x1 x2 x3))] [(.int 6), (.ref a1), (.int ((x4 &&& (255 : Int32)) ||| ((x5 &&& (255 : Int32)) <<< ((8 : Int32) &&& 31))))])) rfl rfl (hb hby d_prog_21_method_2_code_41) _ ?_
    show Steps p.tables e below (T111.setTop (mkF m 42 #[.val (.ref a1), .val (.int (own_mb (0 : Int32) (own_blk x0 x1 x2 x3))), .val (.int 8), .val (.int 4), .val (.int (own_blk x0 x1 x2 x3))] [(.int x6), (.int ((x4 &&& (255 : Int32)) ||| ((x5 &&& (255 : Int32)) <<< ((8 : Int32) &&& 31))))])) _
    refine own_sipush X111.here hx (255 : Int32) (hb hby d_prog_21_method_2_code_42) rfl ?_
    refine own_iand X111.here hx (hb hby d_prog_21_method_2_code_45) ?_
    refine own_bipush X111.here hx (16 : Int32) (hb hby d_prog_21_method_2_code_46) rfl ?_
    refine own_ishl X111.here hx (hb hby d_prog_21_method_2_code_48) ?_
    refine own_ior X111.here hx (hb hby d_prog_21_method_2_code_49) ?_
    refine own_aloadN X111.here hx (hb hby d_prog_21_method_2_code_50) rfl rfl ?_
    refine own_iloadN X111.here hx (hb hby d_prog_21_method_2_code_51) rfl ?_
    refine own_iconst X111.here hx (3 : Int32) (hb hby d_prog_21_method_2_code_52) rfl ?_
    refine own_iadd X111.here hx (hb hby d_prog_21_method_2_code_53) ?_
    show Steps p.tables e below (T111.setTop (mkF m 54 #[.val (.ref a1), .val (.int (own_mb (0 : Int32) (own_blk x0 x1 x2 x3))), .val (.int 8), .val (.int 4), .val (.int (own_blk x0 x1 x2 x3))] [(.int 7), (.ref a1), (.int (((x4 &&& (255 : Int32)) ||| ((x5 &&& (255 : Int32)) <<< ((8 : Int32) &&& 31))) ||| ((x6 &&& (255 : Int32)) <<< ((16 : Int32) &&& 31))))])) _
    refine X111.baloadBytes hx (j := (7 : Int32)) (v := (.int x7)) (by rw [e111]; exact Ar115.1) (State.isArrayOf_alike hZ.alike Ar115.2.1) Ar115.2.2 hin115 hat115 (g := (mkF m 54 #[.val (.ref a1), .val (.int (own_mb (0 : Int32) (own_blk x0 x1 x2 x3))), .val (.int 8), .val (.int 4), .val (.int (own_blk x0 x1 x2 x3))] [(.int 7), (.ref a1), (.int (((x4 &&& (255 : Int32)) ||| ((x5 &&& (255 : Int32)) <<< ((8 : Int32) &&& 31))) ||| ((x6 &&& (255 : Int32)) <<< ((16 : Int32) &&& 31))))])) rfl rfl (hb hby d_prog_21_method_2_code_54) _ ?_
    show Steps p.tables e below (T111.setTop (mkF m 55 #[.val (.ref a1), .val (.int (own_mb (0 : Int32) (own_blk x0 x1 x2 x3))), .val (.int 8), .val (.int 4), .val (.int (own_blk x0 x1 x2 x3))] [(.int x7), (.int (((x4 &&& (255 : Int32)) ||| ((x5 &&& (255 : Int32)) <<< ((8 : Int32) &&& 31))) ||| ((x6 &&& (255 : Int32)) <<< ((16 : Int32) &&& 31))))])) _
    refine own_bipush X111.here hx (24 : Int32) (hb hby d_prog_21_method_2_code_55) rfl ?_
    refine own_ishl X111.here hx (hb hby d_prog_21_method_2_code_57) ?_
    refine own_ior X111.here hx (hb hby d_prog_21_method_2_code_58) ?_
    show Steps p.tables e below (T111.setTop (mkF m 59 #[.val (.ref a1), .val (.int (own_mb (0 : Int32) (own_blk x0 x1 x2 x3))), .val (.int 8), .val (.int 4), .val (.int (own_blk x0 x1 x2 x3))] [(.int (own_blk x4 x5 x6 x7))])) _
    refine own_istore X111.here hx (hb hby d_prog_21_method_2_code_59) (l' := #[.val (.ref a1), .val (.int (own_mb (0 : Int32) (own_blk x0 x1 x2 x3))), .val (.int 8), .val (.int 4), .val (.int (own_blk x4 x5 x6 x7))]) rfl ?_
    refine own_iloadN X111.here hx (hb hby d_prog_21_method_2_code_61) rfl ?_
    refine own_iload X111.here hx (hb hby d_prog_21_method_2_code_62) rfl ?_
    refine st116 _ ?_
    show Steps p.tables e below (T116.setTop (mkF m 67 #[.val (.ref a1), .val (.int (own_mb (0 : Int32) (own_blk x0 x1 x2 x3))), .val (.int 8), .val (.int 4), .val (.int (own_blk x4 x5 x6 x7))] [(.int (own_scr (own_blk x4 x5 x6 x7))), (.int (own_mb (0 : Int32) (own_blk x0 x1 x2 x3)))])) _
    refine own_ixor X116.here hx (hb hby d_prog_21_method_2_code_67) ?_
    refine own_istoreN X116.here hx (hb hby d_prog_21_method_2_code_68) (l' := #[.val (.ref a1), .val (.int ((own_mb (0 : Int32) (own_blk x0 x1 x2 x3)) ^^^ (own_scr (own_blk x4 x5 x6 x7)))), .val (.int 8), .val (.int 4), .val (.int (own_blk x4 x5 x6 x7))]) rfl ?_
    refine own_iloadN X116.here hx (hb hby d_prog_21_method_2_code_69) rfl ?_
    refine own_bipush X116.here hx (13 : Int32) (hb hby d_prog_21_method_2_code_70) rfl ?_
    refine st117 _ ?_
    show Steps p.tables e below (T117.setTop (mkF m 75 #[.val (.ref a1), .val (.int ((own_mb (0 : Int32) (own_blk x0 x1 x2 x3)) ^^^ (own_scr (own_blk x4 x5 x6 x7)))), .val (.int 8), .val (.int 4), .val (.int (own_blk x4 x5 x6 x7))] [(.int (own_rotl ((own_mb (0 : Int32) (own_blk x0 x1 x2 x3)) ^^^ (own_scr (own_blk x4 x5 x6 x7))) (13 : Int32)))])) _
    refine own_iconst X117.here hx (5 : Int32) (hb hby d_prog_21_method_2_code_75) rfl ?_
    refine own_imul X117.here hx (hb hby d_prog_21_method_2_code_76) ?_
    refine X117.ldcInt hx hown (mvT hZ (hw _ (List.mem_of_getElem? (i := 29) rfl))) (g := (mkF m 77 #[.val (.ref a1), .val (.int ((own_mb (0 : Int32) (own_blk x0 x1 x2 x3)) ^^^ (own_scr (own_blk x4 x5 x6 x7)))), .val (.int 8), .val (.int 4), .val (.int (own_blk x4 x5 x6 x7))] [(.int ((own_rotl ((own_mb (0 : Int32) (own_blk x0 x1 x2 x3)) ^^^ (own_scr (own_blk x4 x5 x6 x7))) (13 : Int32)) * (5 : Int32)))])) rfl (hb hby d_prog_21_method_2_code_77) _ ?_
    show Steps p.tables e below (T117.setTop (mkF m 79 #[.val (.ref a1), .val (.int ((own_mb (0 : Int32) (own_blk x0 x1 x2 x3)) ^^^ (own_scr (own_blk x4 x5 x6 x7)))), .val (.int 8), .val (.int 4), .val (.int (own_blk x4 x5 x6 x7))] [(.int (-430675100)), (.int ((own_rotl ((own_mb (0 : Int32) (own_blk x0 x1 x2 x3)) ^^^ (own_scr (own_blk x4 x5 x6 x7))) (13 : Int32)) * (5 : Int32)))])) _
    refine own_iadd X117.here hx (hb hby d_prog_21_method_2_code_79) ?_
    show Steps p.tables e below (T117.setTop (mkF m 80 #[.val (.ref a1), .val (.int ((own_mb (0 : Int32) (own_blk x0 x1 x2 x3)) ^^^ (own_scr (own_blk x4 x5 x6 x7)))), .val (.int 8), .val (.int 4), .val (.int (own_blk x4 x5 x6 x7))] [(.int (own_mb (own_mb (0 : Int32) (own_blk x0 x1 x2 x3)) (own_blk x4 x5 x6 x7)))])) _
    refine own_istoreN X117.here hx (hb hby d_prog_21_method_2_code_80) (l' := #[.val (.ref a1), .val (.int (own_mb (own_mb (0 : Int32) (own_blk x0 x1 x2 x3)) (own_blk x4 x5 x6 x7))), .val (.int 8), .val (.int 4), .val (.int (own_blk x4 x5 x6 x7))]) rfl ?_
    refine own_iinc X117.here hx (4 : Int32) (hb hby d_prog_21_method_2_code_81) rfl rfl (l' := #[.val (.ref a1), .val (.int (own_mb (own_mb (0 : Int32) (own_blk x0 x1 x2 x3)) (own_blk x4 x5 x6 x7))), .val (.int 8), .val (.int 8), .val (.int (own_blk x4 x5 x6 x7))]) rfl ?_
    refine own_goto X117.here hx 84 12 rfl (hb hby d_prog_21_method_2_code_84) (by decide) (by decide) ?_
    refine own_iloadN X117.here hx (hb hby d_prog_21_method_2_code_12) rfl ?_
    refine own_iloadN X117.here hx (hb hby d_prog_21_method_2_code_13) rfl ?_
    refine own_icmpYes X117.here hx 14 87 rfl (hb hby d_prog_21_method_2_code_14) (flt (by decide : ¬ ((8 : Int32) < (8 : Int32)))).2.1 (by decide) (by decide) ?_
    refine own_iconst X117.here hx (0 : Int32) (hb hby d_prog_21_method_2_code_87) rfl ?_
    refine own_istoreN X117.here hx (hb hby d_prog_21_method_2_code_88) (l' := #[.val (.ref a1), .val (.int (own_mb (own_mb (0 : Int32) (own_blk x0 x1 x2 x3)) (own_blk x4 x5 x6 x7))), .val (.int 8), .val (.int 0), .val (.int (own_blk x4 x5 x6 x7))]) rfl ?_
    refine own_aloadN X117.here hx (hb hby d_prog_21_method_2_code_89) rfl rfl ?_
    refine X117.arraylength hx (by rw [e117]; exact Ar118.1) (State.isArrayOf_alike hZ.alike Ar118.2.1) (g := (mkF m 90 #[.val (.ref a1), .val (.int (own_mb (own_mb (0 : Int32) (own_blk x0 x1 x2 x3)) (own_blk x4 x5 x6 x7))), .val (.int 8), .val (.int 0), .val (.int (own_blk x4 x5 x6 x7))] [(.ref a1)])) rfl rfl (hb hby d_prog_21_method_2_code_90) _ ?_
    rw [len_of S118 M118]
    show Steps p.tables e below (T117.setTop (mkF m 91 #[.val (.ref a1), .val (.int (own_mb (own_mb (0 : Int32) (own_blk x0 x1 x2 x3)) (own_blk x4 x5 x6 x7))), .val (.int 8), .val (.int 0), .val (.int (own_blk x4 x5 x6 x7))] [(.int 9)])) _
    refine own_iconst X117.here hx (1 : Int32) (hb hby d_prog_21_method_2_code_91) rfl ?_
    refine own_isub X117.here hx (hb hby d_prog_21_method_2_code_92) ?_
    show Steps p.tables e below (T117.setTop (mkF m 93 #[.val (.ref a1), .val (.int (own_mb (own_mb (0 : Int32) (own_blk x0 x1 x2 x3)) (own_blk x4 x5 x6 x7))), .val (.int 8), .val (.int 0), .val (.int (own_blk x4 x5 x6 x7))] [(.int 8)])) _
    refine own_istore X117.here hx (hb hby d_prog_21_method_2_code_93) (l' := #[.val (.ref a1), .val (.int (own_mb (own_mb (0 : Int32) (own_blk x0 x1 x2 x3)) (own_blk x4 x5 x6 x7))), .val (.int 8), .val (.int 0), .val (.int 8)]) rfl ?_
    refine own_iload X117.here hx (hb hby d_prog_21_method_2_code_95) rfl ?_
    refine own_iloadN X117.here hx (hb hby d_prog_21_method_2_code_97) rfl ?_
    refine own_icmpNo X117.here hx (hb hby d_prog_21_method_2_code_98) (flt (by decide : ¬ ((8 : Int32) < (8 : Int32)))).1 ?_
    refine own_iloadN X117.here hx (hb hby d_prog_21_method_2_code_101) rfl ?_
    refine own_bipush X117.here hx (8 : Int32) (hb hby d_prog_21_method_2_code_102) rfl ?_
    refine own_ishl X117.here hx (hb hby d_prog_21_method_2_code_104) ?_
    show Steps p.tables e below (T117.setTop (mkF m 105 #[.val (.ref a1), .val (.int (own_mb (own_mb (0 : Int32) (own_blk x0 x1 x2 x3)) (own_blk x4 x5 x6 x7))), .val (.int 8), .val (.int 0), .val (.int 8)] [(.int 0)])) _
    refine own_aloadN X117.here hx (hb hby d_prog_21_method_2_code_105) rfl rfl ?_
    refine own_iload X117.here hx (hb hby d_prog_21_method_2_code_106) rfl ?_
    refine X117.baloadBytes hx (j := (8 : Int32)) (v := (.int x8)) (by rw [e117]; exact Ar119.1) (State.isArrayOf_alike hZ.alike Ar119.2.1) Ar119.2.2 hin119 hat119 (g := (mkF m 108 #[.val (.ref a1), .val (.int (own_mb (own_mb (0 : Int32) (own_blk x0 x1 x2 x3)) (own_blk x4 x5 x6 x7))), .val (.int 8), .val (.int 0), .val (.int 8)] [(.int 8), (.ref a1), (.int 0)])) rfl rfl (hb hby d_prog_21_method_2_code_108) _ ?_
    show Steps p.tables e below (T117.setTop (mkF m 109 #[.val (.ref a1), .val (.int (own_mb (own_mb (0 : Int32) (own_blk x0 x1 x2 x3)) (own_blk x4 x5 x6 x7))), .val (.int 8), .val (.int 0), .val (.int 8)] [(.int x8), (.int 0)])) _
    refine own_sipush X117.here hx (255 : Int32) (hb hby d_prog_21_method_2_code_109) rfl ?_
    refine own_iand X117.here hx (hb hby d_prog_21_method_2_code_112) ?_
    refine own_ior X117.here hx (hb hby d_prog_21_method_2_code_113) ?_
    show Steps p.tables e below (T117.setTop (mkF m 114 #[.val (.ref a1), .val (.int (own_mb (own_mb (0 : Int32) (own_blk x0 x1 x2 x3)) (own_blk x4 x5 x6 x7))), .val (.int 8), .val (.int 0), .val (.int 8)] [(.int (own_t1 x8))])) _
    refine own_istoreN X117.here hx (hb hby d_prog_21_method_2_code_114) (l' := #[.val (.ref a1), .val (.int (own_mb (own_mb (0 : Int32) (own_blk x0 x1 x2 x3)) (own_blk x4 x5 x6 x7))), .val (.int 8), .val (.int (own_t1 x8)), .val (.int 8)]) rfl ?_
    refine own_iinc X117.here hx (-1 : Int32) (hb hby d_prog_21_method_2_code_115) rfl rfl (l' := #[.val (.ref a1), .val (.int (own_mb (own_mb (0 : Int32) (own_blk x0 x1 x2 x3)) (own_blk x4 x5 x6 x7))), .val (.int 8), .val (.int (own_t1 x8)), .val (.int 7)]) rfl ?_
    refine own_goto X117.here hx 118 95 rfl (hb hby d_prog_21_method_2_code_118) (by decide) (by decide) ?_
    refine own_iload X117.here hx (hb hby d_prog_21_method_2_code_95) rfl ?_
    refine own_iloadN X117.here hx (hb hby d_prog_21_method_2_code_97) rfl ?_
    refine own_icmpYes X117.here hx 98 121 rfl (hb hby d_prog_21_method_2_code_98) (tlt (by decide : (7 : Int32) < (8 : Int32))).1 (by decide) (by decide) ?_
    refine own_iloadN X117.here hx (hb hby d_prog_21_method_2_code_121) rfl ?_
    refine own_iloadN X117.here hx (hb hby d_prog_21_method_2_code_122) rfl ?_
    refine st120 _ ?_
    show Steps p.tables e below (T120.setTop (mkF m 126 #[.val (.ref a1), .val (.int (own_mb (own_mb (0 : Int32) (own_blk x0 x1 x2 x3)) (own_blk x4 x5 x6 x7))), .val (.int 8), .val (.int (own_t1 x8)), .val (.int 7)] [(.int (own_scr (own_t1 x8))), (.int (own_mb (own_mb (0 : Int32) (own_blk x0 x1 x2 x3)) (own_blk x4 x5 x6 x7)))])) _
    refine own_ixor X120.here hx (hb hby d_prog_21_method_2_code_126) ?_
    refine own_istoreN X120.here hx (hb hby d_prog_21_method_2_code_127) (l' := #[.val (.ref a1), .val (.int ((own_mb (own_mb (0 : Int32) (own_blk x0 x1 x2 x3)) (own_blk x4 x5 x6 x7)) ^^^ (own_scr (own_t1 x8)))), .val (.int 8), .val (.int (own_t1 x8)), .val (.int 7)]) rfl ?_
    refine own_iloadN X120.here hx (hb hby d_prog_21_method_2_code_128) rfl ?_
    refine own_aloadN X120.here hx (hb hby d_prog_21_method_2_code_129) rfl rfl ?_
    refine X120.arraylength hx (by rw [e120]; exact Ar121.1) (State.isArrayOf_alike hZ.alike Ar121.2.1) (g := (mkF m 130 #[.val (.ref a1), .val (.int ((own_mb (own_mb (0 : Int32) (own_blk x0 x1 x2 x3)) (own_blk x4 x5 x6 x7)) ^^^ (own_scr (own_t1 x8)))), .val (.int 8), .val (.int (own_t1 x8)), .val (.int 7)] [(.ref a1), (.int ((own_mb (own_mb (0 : Int32) (own_blk x0 x1 x2 x3)) (own_blk x4 x5 x6 x7)) ^^^ (own_scr (own_t1 x8))))])) rfl rfl (hb hby d_prog_21_method_2_code_130) _ ?_
    rw [len_of S121 M121]
    show Steps p.tables e below (T120.setTop (mkF m 131 #[.val (.ref a1), .val (.int ((own_mb (own_mb (0 : Int32) (own_blk x0 x1 x2 x3)) (own_blk x4 x5 x6 x7)) ^^^ (own_scr (own_t1 x8)))), .val (.int 8), .val (.int (own_t1 x8)), .val (.int 7)] [(.int 9), (.int ((own_mb (own_mb (0 : Int32) (own_blk x0 x1 x2 x3)) (own_blk x4 x5 x6 x7)) ^^^ (own_scr (own_t1 x8))))])) _
    refine own_ixor X120.here hx (hb hby d_prog_21_method_2_code_131) ?_
    refine own_istoreN X120.here hx (hb hby d_prog_21_method_2_code_132) (l' := #[.val (.ref a1), .val (.int (((own_mb (own_mb (0 : Int32) (own_blk x0 x1 x2 x3)) (own_blk x4 x5 x6 x7)) ^^^ (own_scr (own_t1 x8))) ^^^ (9 : Int32))), .val (.int 8), .val (.int (own_t1 x8)), .val (.int 7)]) rfl ?_
    refine own_iloadN X120.here hx (hb hby d_prog_21_method_2_code_133) rfl ?_
    refine st122 _ ?_
    show Steps p.tables e below (T122.setTop (mkF m 137 #[.val (.ref a1), .val (.int (((own_mb (own_mb (0 : Int32) (own_blk x0 x1 x2 x3)) (own_blk x4 x5 x6 x7)) ^^^ (own_scr (own_t1 x8))) ^^^ (9 : Int32))), .val (.int 8), .val (.int (own_t1 x8)), .val (.int 7)] [(.int (own_fin (((own_mb (own_mb (0 : Int32) (own_blk x0 x1 x2 x3)) (own_blk x4 x5 x6 x7)) ^^^ (own_scr (own_t1 x8))) ^^^ (9 : Int32))))])) _
    exact retI X122 hx Bd.returns (hb hby d_prog_21_method_2_code_137) hr
  · show QH_9 Z a1 k1 x0 x1 x2 x3 x4 x5 x6 x7 x8 h0 n0 _ T122.heap _
    rw [e122]
    exact ⟨rfl, N122, rfl⟩
theorem ef_rmH_10 (m : MethodId) (x0 : Addr) : entryFrame m #[(.ref x0)] 5 = mkF m 0 #[.val (.ref x0), .unset, .unset, .unset, .unset] [] := by first | (simp [entryFrame, mkF, argsToLocals, Value.category]; done) | rfl
def QH_10 (Z : State) (a1 : Addr) (k1 : ClassId) (x0 : Int32) (x1 : Int32) (x2 : Int32) (x3 : Int32) (x4 : Int32) (x5 : Int32) (x6 : Int32) (x7 : Int32) (x8 : Int32) (x9 : Int32) (h0 : Heap) (n0 : Nat) (v : Option Value) (h : Heap) (L : List Loc) : Prop := v = some (.int (own_fin (((own_mb (own_mb (0 : Int32) (own_blk x0 x1 x2 x3)) (own_blk x4 x5 x6 x7)) ^^^ (own_scr (own_t2 x8 x9))) ^^^ (10 : Int32)))) ∧ Fr n0 L ∧ h = h0
set_option maxRecDepth 65536 in
set_option maxHeartbeats 40000000 in
theorem rmH_10 (l : Launch) (Z : State) (a0 : Array Value) (hw : ∀ d ∈ tables_1, d.before a0 Z = true) (ws : List Jvm.Cond) (a1 : Addr) (k1 : ClassId) (x0 : Int32) (x1 : Int32) (x2 : Int32) (x3 : Int32) (x4 : Int32) (x5 : Int32) (x6 : Int32) (x7 : Int32) (x8 : Int32) (x9 : Int32) (h0 : Heap) (n0 : Nat) (Z0 : n0 ≤ h0.size) (V1 : Arv Z h0 a1 k1 .byte (10 : Int32) [(.int x0), (.int x1), (.int x2), (.int x3), (.int x4), (.int x5), (.int x6), (.int x7), (.int x8), (.int x9)] (.int (0 : Int32))) :
    MetFree l (⟨"com/example/forkline/forkline/bucketing/MurmurHash3", "hash32", "([B)I"⟩ : MethodName) (head1 (Jvm.Cond.code (⟨"com/example/forkline/forkline/bucketing/MurmurHash3", "hash32", "([B)I"⟩ : MethodName) prog_21_method_2_code 5 (some .int) :: ws) ({ frames := 2, cells := 0, slots := 0, locals := 26 } : Room)) (fun a U => a = #[(.ref a1)] ∧ Z.Warmed39 U.vm ∧ U.heap = h0) (fun _ _ _ _ _ => True) (fun _ U o U' => ∃ v L, o = .returned v ∧ QH_10 Z a1 k1 x0 x1 x2 x3 x4 x5 x6 x7 x8 x9 h0 n0 v U'.heap L ∧ FrameEnd U o U' L ({ frames := 2, cells := 0, slots := 0, locals := 26 } : Room).cells ({ frames := 2, cells := 0, slots := 0, locals := 26 } : Room).slots) := by
  refine MetFree.of_bodySF (plainFor_of_name pn_com_example_forkline_forkline_bucketing_MurmurHash3) hisR ?_
  intro p e s m args below meth c s₁ Bd hml0 hP hK
  obtain ⟨rfl, hZ, hh⟩ := hP
  have hx := Bd.exec
  have hby := Bd.bytes
  have hml : c.maxLocals = 5 := hml0
  have hown : s.vm.findClass "com/example/forkline/forkline/bucketing/MurmurHash3" = some m.cls := findClass_of_methodNamed Bd.named
  have hnm := (name_of_methodNamed Bd.named Bd.method).1
  have X0 : Stand p l e ({ frames := 2, cells := 0, slots := 0, locals := 26 } : Room) s m #[(.ref a1)] below meth c s₁ [] 0 0 := Stand.of_body Bd
  have e0 : s₁.heap = h0 := by rw [← hh, Bd.state]; rfl
  have N0 := Fr.nil n0
  have pre0 : ∀ tG, Steps p.tables e below (s₁.setTop (mkF m 0 #[.val (.ref a1), .unset, .unset, .unset, .unset] [])) tG → Steps p.tables e below (s₁.setTop (entryFrame m #[(.ref a1)] 5)) tG := fun tG kG => castTop (ef_rmH_10 m a1) kG
  obtain ⟨cl123, Ar123, -, S123, M123, -, -⟩ := id V1
  obtain ⟨cl124, Ar124, -, S124, M124, -, -⟩ := id V1
  obtain ⟨cl125, Ar125, q125, S125, M125, H125, J125⟩ := id V1
  have hin125 : ¬ ((0 : Int32) < 0 ∨ cl125.slots.size ≤ ((0 : Int32)).toNatClampNeg) := inb_of S125 ⟨by decide, by decide⟩
  have hat125 : cl125.slots[((0 : Int32)).toNatClampNeg]? = some (.int x0) := Has.at H125 hin125 rfl
  obtain ⟨cl126, Ar126, q126, S126, M126, H126, J126⟩ := id V1
  have hin126 : ¬ ((1 : Int32) < 0 ∨ cl126.slots.size ≤ ((1 : Int32)).toNatClampNeg) := inb_of S126 ⟨by decide, by decide⟩
  have hat126 : cl126.slots[((1 : Int32)).toNatClampNeg]? = some (.int x1) := Has.at H126 hin126 rfl
  obtain ⟨cl127, Ar127, q127, S127, M127, H127, J127⟩ := id V1
  have hin127 : ¬ ((2 : Int32) < 0 ∨ cl127.slots.size ≤ ((2 : Int32)).toNatClampNeg) := inb_of S127 ⟨by decide, by decide⟩
  have hat127 : cl127.slots[((2 : Int32)).toNatClampNeg]? = some (.int x2) := Has.at H127 hin127 rfl
  obtain ⟨cl128, Ar128, q128, S128, M128, H128, J128⟩ := id V1
  have hin128 : ¬ ((3 : Int32) < 0 ∨ cl128.slots.size ≤ ((3 : Int32)).toNatClampNeg) := inb_of S128 ⟨by decide, by decide⟩
  have hat128 : cl128.slots[((3 : Int32)).toNatClampNeg]? = some (.int x3) := Has.at H128 hin128 rfl
  obtain ⟨_, _, ⟨T129, L129, k129, n129⟩, -, X129, ⟨Lc129, hQ129, l129, y129, z129⟩, st129⟩ := Jvm.LawKit.callS X0 hx (y := (⟨"com/example/forkline/forkline/bucketing/MurmurHash3", "scramble", "(I)I"⟩ : MethodName)) hown (mvT hZ (hw _ (List.mem_of_getElem? (i := 8) rfl))) (mvT hZ (hw _ (List.mem_of_getElem? (i := 9) rfl))) (mvT hZ (hw _ (List.mem_of_getElem? (i := 6) rfl))) (mvT hZ (hw _ (List.mem_of_getElem? (i := 10) rfl))) (by decide) (backOf (W := 1) (rm2 l Z a0 hw [] (own_blk x0 x1 x2 x3) h0 n0 Z0) hZ (hw _ (List.mem_of_getElem? (i := 10) rfl)) (hw _ (List.mem_of_getElem? (i := 6) rfl)) (by decide) (by decide)) (g := (mkF m 64 #[.val (.ref a1), .val (.int 0), .val (.int 8), .val (.int 0), .val (.int (own_blk x0 x1 x2 x3))] [(.int (own_blk x0 x1 x2 x3)), (.int 0)])) rfl (by rw [hml]; rfl) (argsL := [(.int (own_blk x0 x1 x2 x3))]) (rest := [(.int 0)]) (lenOf pd_28I29I rfl) rfl (by show 2 * 0 + _ ≤ _; exact Nat.le_of_eq rfl) (hb hby d_prog_21_method_2_code_64) (fun _ _ => ⟨rfl, e0, (by decide : 0 + 0 ≤ _), (by decide : 0 + 0 ≤ _)⟩)
  dsimp only [Pt.U, Pt.locs, Pt.cells, Pt.slots] at X129 l129 y129 z129 st129 hQ129
  subst l129 y129 z129
  obtain ⟨rfl, N129q, e129⟩ := hQ129
  have N129 := Fr.app N0 N129q
  obtain ⟨_, _, ⟨T130, L130, k130, n130⟩, -, X130, ⟨Lc130, hQ130, l130, y130, z130⟩, st130⟩ := Jvm.LawKit.callS X129 hx (y := (⟨"java/lang/Integer", "rotateLeft", "(II)I"⟩ : MethodName)) hown (mvT hZ (hw _ (List.mem_of_getElem? (i := 12) rfl))) (mvT hZ (hw _ (List.mem_of_getElem? (i := 13) rfl))) (mvT hZ (hw _ (List.mem_of_getElem? (i := 14) rfl))) (mvT hZ (hw _ (List.mem_of_getElem? (i := 15) rfl))) (by decide) (backOf (W := 0) (rm1 l Z a0 hw [] ((0 : Int32) ^^^ (own_scr (own_blk x0 x1 x2 x3))) (13 : Int32) h0 n0 Z0) hZ (hw _ (List.mem_of_getElem? (i := 15) rfl)) (hw _ (List.mem_of_getElem? (i := 14) rfl)) (by decide) (by decide)) (g := (mkF m 72 #[.val (.ref a1), .val (.int ((0 : Int32) ^^^ (own_scr (own_blk x0 x1 x2 x3)))), .val (.int 8), .val (.int 0), .val (.int (own_blk x0 x1 x2 x3))] [(.int 13), (.int ((0 : Int32) ^^^ (own_scr (own_blk x0 x1 x2 x3))))])) rfl (by rw [hml]; rfl) (argsL := [(.int ((0 : Int32) ^^^ (own_scr (own_blk x0 x1 x2 x3)))), (.int 13)]) (rest := []) (lenOf pd_28II29I rfl) rfl (by show 2 * 0 + _ ≤ _; exact Nat.le_of_eq rfl) (hb hby d_prog_21_method_2_code_72) (fun _ _ => ⟨rfl, e129, (by decide : 0 + 0 ≤ _), (by decide : 0 + 0 ≤ _)⟩)
  dsimp only [Pt.U, Pt.locs, Pt.cells, Pt.slots] at X130 l130 y130 z130 st130 hQ130
  subst l130 y130 z130
  obtain ⟨rfl, N130q, e130⟩ := hQ130
  have N130 := Fr.app N129 N130q
  obtain ⟨cl131, Ar131, q131, S131, M131, H131, J131⟩ := id V1
  have hin131 : ¬ ((4 : Int32) < 0 ∨ cl131.slots.size ≤ ((4 : Int32)).toNatClampNeg) := inb_of S131 ⟨by decide, by decide⟩
  have hat131 : cl131.slots[((4 : Int32)).toNatClampNeg]? = some (.int x4) := Has.at H131 hin131 rfl
  obtain ⟨cl132, Ar132, q132, S132, M132, H132, J132⟩ := id V1
  have hin132 : ¬ ((5 : Int32) < 0 ∨ cl132.slots.size ≤ ((5 : Int32)).toNatClampNeg) := inb_of S132 ⟨by decide, by decide⟩
  have hat132 : cl132.slots[((5 : Int32)).toNatClampNeg]? = some (.int x5) := Has.at H132 hin132 rfl
  obtain ⟨cl133, Ar133, q133, S133, M133, H133, J133⟩ := id V1
  have hin133 : ¬ ((6 : Int32) < 0 ∨ cl133.slots.size ≤ ((6 : Int32)).toNatClampNeg) := inb_of S133 ⟨by decide, by decide⟩
  have hat133 : cl133.slots[((6 : Int32)).toNatClampNeg]? = some (.int x6) := Has.at H133 hin133 rfl
  obtain ⟨cl134, Ar134, q134, S134, M134, H134, J134⟩ := id V1
  have hin134 : ¬ ((7 : Int32) < 0 ∨ cl134.slots.size ≤ ((7 : Int32)).toNatClampNeg) := inb_of S134 ⟨by decide, by decide⟩
  have hat134 : cl134.slots[((7 : Int32)).toNatClampNeg]? = some (.int x7) := Has.at H134 hin134 rfl
  obtain ⟨_, _, ⟨T135, L135, k135, n135⟩, -, X135, ⟨Lc135, hQ135, l135, y135, z135⟩, st135⟩ := Jvm.LawKit.callS X130 hx (y := (⟨"com/example/forkline/forkline/bucketing/MurmurHash3", "scramble", "(I)I"⟩ : MethodName)) hown (mvT hZ (hw _ (List.mem_of_getElem? (i := 8) rfl))) (mvT hZ (hw _ (List.mem_of_getElem? (i := 9) rfl))) (mvT hZ (hw _ (List.mem_of_getElem? (i := 6) rfl))) (mvT hZ (hw _ (List.mem_of_getElem? (i := 10) rfl))) (by decide) (backOf (W := 1) (rm2 l Z a0 hw [] (own_blk x4 x5 x6 x7) h0 n0 Z0) hZ (hw _ (List.mem_of_getElem? (i := 10) rfl)) (hw _ (List.mem_of_getElem? (i := 6) rfl)) (by decide) (by decide)) (g := (mkF m 64 #[.val (.ref a1), .val (.int (own_mb (0 : Int32) (own_blk x0 x1 x2 x3))), .val (.int 8), .val (.int 4), .val (.int (own_blk x4 x5 x6 x7))] [(.int (own_blk x4 x5 x6 x7)), (.int (own_mb (0 : Int32) (own_blk x0 x1 x2 x3)))])) rfl (by rw [hml]; rfl) (argsL := [(.int (own_blk x4 x5 x6 x7))]) (rest := [(.int (own_mb (0 : Int32) (own_blk x0 x1 x2 x3)))]) (lenOf pd_28I29I rfl) rfl (by show 2 * 0 + _ ≤ _; exact Nat.le_of_eq rfl) (hb hby d_prog_21_method_2_code_64) (fun _ _ => ⟨rfl, e130, (by decide : 0 + 0 ≤ _), (by decide : 0 + 0 ≤ _)⟩)
  dsimp only [Pt.U, Pt.locs, Pt.cells, Pt.slots] at X135 l135 y135 z135 st135 hQ135
  subst l135 y135 z135
  obtain ⟨rfl, N135q, e135⟩ := hQ135
  have N135 := Fr.app N130 N135q
  obtain ⟨_, _, ⟨T136, L136, k136, n136⟩, -, X136, ⟨Lc136, hQ136, l136, y136, z136⟩, st136⟩ := Jvm.LawKit.callS X135 hx (y := (⟨"java/lang/Integer", "rotateLeft", "(II)I"⟩ : MethodName)) hown (mvT hZ (hw _ (List.mem_of_getElem? (i := 12) rfl))) (mvT hZ (hw _ (List.mem_of_getElem? (i := 13) rfl))) (mvT hZ (hw _ (List.mem_of_getElem? (i := 14) rfl))) (mvT hZ (hw _ (List.mem_of_getElem? (i := 15) rfl))) (by decide) (backOf (W := 0) (rm1 l Z a0 hw [] ((own_mb (0 : Int32) (own_blk x0 x1 x2 x3)) ^^^ (own_scr (own_blk x4 x5 x6 x7))) (13 : Int32) h0 n0 Z0) hZ (hw _ (List.mem_of_getElem? (i := 15) rfl)) (hw _ (List.mem_of_getElem? (i := 14) rfl)) (by decide) (by decide)) (g := (mkF m 72 #[.val (.ref a1), .val (.int ((own_mb (0 : Int32) (own_blk x0 x1 x2 x3)) ^^^ (own_scr (own_blk x4 x5 x6 x7)))), .val (.int 8), .val (.int 4), .val (.int (own_blk x4 x5 x6 x7))] [(.int 13), (.int ((own_mb (0 : Int32) (own_blk x0 x1 x2 x3)) ^^^ (own_scr (own_blk x4 x5 x6 x7))))])) rfl (by rw [hml]; rfl) (argsL := [(.int ((own_mb (0 : Int32) (own_blk x0 x1 x2 x3)) ^^^ (own_scr (own_blk x4 x5 x6 x7)))), (.int 13)]) (rest := []) (lenOf pd_28II29I rfl) rfl (by show 2 * 0 + _ ≤ _; exact Nat.le_of_eq rfl) (hb hby d_prog_21_method_2_code_72) (fun _ _ => ⟨rfl, e135, (by decide : 0 + 0 ≤ _), (by decide : 0 + 0 ≤ _)⟩)
  dsimp only [Pt.U, Pt.locs, Pt.cells, Pt.slots] at X136 l136 y136 z136 st136 hQ136
  subst l136 y136 z136
  obtain ⟨rfl, N136q, e136⟩ := hQ136
  have N136 := Fr.app N135 N136q
  obtain ⟨cl137, Ar137, -, S137, M137, -, -⟩ := id V1
  obtain ⟨cl138, Ar138, q138, S138, M138, H138, J138⟩ := id V1
  have hin138 : ¬ ((9 : Int32) < 0 ∨ cl138.slots.size ≤ ((9 : Int32)).toNatClampNeg) := inb_of S138 ⟨by decide, by decide⟩
  have hat138 : cl138.slots[((9 : Int32)).toNatClampNeg]? = some (.int x9) := Has.at H138 hin138 rfl
  obtain ⟨cl139, Ar139, q139, S139, M139, H139, J139⟩ := id V1
  have hin139 : ¬ ((8 : Int32) < 0 ∨ cl139.slots.size ≤ ((8 : Int32)).toNatClampNeg) := inb_of S139 ⟨by decide, by decide⟩
  have hat139 : cl139.slots[((8 : Int32)).toNatClampNeg]? = some (.int x8) := Has.at H139 hin139 rfl
  obtain ⟨_, _, ⟨T140, L140, k140, n140⟩, -, X140, ⟨Lc140, hQ140, l140, y140, z140⟩, st140⟩ := Jvm.LawKit.callS X136 hx (y := (⟨"com/example/forkline/forkline/bucketing/MurmurHash3", "scramble", "(I)I"⟩ : MethodName)) hown (mvT hZ (hw _ (List.mem_of_getElem? (i := 8) rfl))) (mvT hZ (hw _ (List.mem_of_getElem? (i := 9) rfl))) (mvT hZ (hw _ (List.mem_of_getElem? (i := 6) rfl))) (mvT hZ (hw _ (List.mem_of_getElem? (i := 10) rfl))) (by decide) (backOf (W := 1) (rm2 l Z a0 hw [] (own_t2 x8 x9) h0 n0 Z0) hZ (hw _ (List.mem_of_getElem? (i := 10) rfl)) (hw _ (List.mem_of_getElem? (i := 6) rfl)) (by decide) (by decide)) (g := (mkF m 123 #[.val (.ref a1), .val (.int (own_mb (own_mb (0 : Int32) (own_blk x0 x1 x2 x3)) (own_blk x4 x5 x6 x7))), .val (.int 8), .val (.int (own_t2 x8 x9)), .val (.int 7)] [(.int (own_t2 x8 x9)), (.int (own_mb (own_mb (0 : Int32) (own_blk x0 x1 x2 x3)) (own_blk x4 x5 x6 x7)))])) rfl (by rw [hml]; rfl) (argsL := [(.int (own_t2 x8 x9))]) (rest := [(.int (own_mb (own_mb (0 : Int32) (own_blk x0 x1 x2 x3)) (own_blk x4 x5 x6 x7)))]) (lenOf pd_28I29I rfl) rfl (by show 2 * 0 + _ ≤ _; exact Nat.le_of_eq rfl) (hb hby d_prog_21_method_2_code_123) (fun _ _ => ⟨rfl, e136, (by decide : 0 + 0 ≤ _), (by decide : 0 + 0 ≤ _)⟩)
  dsimp only [Pt.U, Pt.locs, Pt.cells, Pt.slots] at X140 l140 y140 z140 st140 hQ140
  subst l140 y140 z140
  obtain ⟨rfl, N140q, e140⟩ := hQ140
  have N140 := Fr.app N136 N140q
  obtain ⟨cl141, Ar141, -, S141, M141, -, -⟩ := id V1
  obtain ⟨_, _, ⟨T142, L142, k142, n142⟩, -, X142, ⟨Lc142, hQ142, l142, y142, z142⟩, st142⟩ := Jvm.LawKit.callS X140 hx (y := (⟨"com/example/forkline/forkline/bucketing/MurmurHash3", "finalMix", "(I)I"⟩ : MethodName)) hown (mvT hZ (hw _ (List.mem_of_getElem? (i := 17) rfl))) (mvT hZ (hw _ (List.mem_of_getElem? (i := 18) rfl))) (mvT hZ (hw _ (List.mem_of_getElem? (i := 6) rfl))) (mvT hZ (hw _ (List.mem_of_getElem? (i := 19) rfl))) (by decide) (backOf (W := 0) (rm3 l Z a0 hw [] (((own_mb (own_mb (0 : Int32) (own_blk x0 x1 x2 x3)) (own_blk x4 x5 x6 x7)) ^^^ (own_scr (own_t2 x8 x9))) ^^^ (10 : Int32)) h0 n0 Z0) hZ (hw _ (List.mem_of_getElem? (i := 19) rfl)) (hw _ (List.mem_of_getElem? (i := 6) rfl)) (by decide) (by decide)) (g := (mkF m 134 #[.val (.ref a1), .val (.int (((own_mb (own_mb (0 : Int32) (own_blk x0 x1 x2 x3)) (own_blk x4 x5 x6 x7)) ^^^ (own_scr (own_t2 x8 x9))) ^^^ (10 : Int32))), .val (.int 8), .val (.int (own_t2 x8 x9)), .val (.int 7)] [(.int (((own_mb (own_mb (0 : Int32) (own_blk x0 x1 x2 x3)) (own_blk x4 x5 x6 x7)) ^^^ (own_scr (own_t2 x8 x9))) ^^^ (10 : Int32)))])) rfl (by rw [hml]; rfl) (argsL := [(.int (((own_mb (own_mb (0 : Int32) (own_blk x0 x1 x2 x3)) (own_blk x4 x5 x6 x7)) ^^^ (own_scr (own_t2 x8 x9))) ^^^ (10 : Int32)))]) (rest := []) (lenOf pd_28I29I rfl) rfl (by show 2 * 0 + _ ≤ _; exact Nat.le_of_eq rfl) (hb hby d_prog_21_method_2_code_134) (fun _ _ => ⟨rfl, e140, (by decide : 0 + 0 ≤ _), (by decide : 0 + 0 ≤ _)⟩)
  dsimp only [Pt.U, Pt.locs, Pt.cells, Pt.slots] at X142 l142 y142 z142 st142 hQ142
  subst l142 y142 z142
  obtain ⟨rfl, N142q, e142⟩ := hQ142
  have N142 := Fr.app N140 N142q
  obtain ⟨fs, hr, hrun, hended, hW, hsame⟩ := X142.leave (v := some (.int (own_fin (((own_mb (own_mb (0 : Int32) (own_blk x0 x1 x2 x3)) (own_blk x4 x5 x6 x7)) ^^^ (own_scr (own_t2 x8 x9))) ^^^ (10 : Int32))))) (fun h => by rw [Bd.returns] at h; cases h)
  refine ⟨_, _, pre0 _ ?_, hrun, hended, _, _, rfl, ?_, ⟨_, rfl⟩, hW, hsame.mono (by decide) (by decide)⟩
  · refine own_iconst X0.here hx (0 : Int32) (hb hby d_prog_21_method_2_code_0) rfl ?_
    refine own_istoreN X0.here hx (hb hby d_prog_21_method_2_code_1) (l' := #[.val (.ref a1), .val (.int 0), .unset, .unset, .unset]) rfl ?_
    refine own_aloadN X0.here hx (hb hby d_prog_21_method_2_code_2) rfl rfl ?_
    refine X0.arraylength hx (by rw [e0]; exact Ar123.1) (State.isArrayOf_alike hZ.alike Ar123.2.1) (g := (mkF m 3 #[.val (.ref a1), .val (.int 0), .unset, .unset, .unset] [(.ref a1)])) rfl rfl (hb hby d_prog_21_method_2_code_3) _ ?_
    rw [len_of S123 M123]
    show Steps p.tables e below (s₁.setTop (mkF m 4 #[.val (.ref a1), .val (.int 0), .unset, .unset, .unset] [(.int 10)])) _
    refine own_aloadN X0.here hx (hb hby d_prog_21_method_2_code_4) rfl rfl ?_
    refine X0.arraylength hx (by rw [e0]; exact Ar124.1) (State.isArrayOf_alike hZ.alike Ar124.2.1) (g := (mkF m 5 #[.val (.ref a1), .val (.int 0), .unset, .unset, .unset] [(.ref a1), (.int 10)])) rfl rfl (hb hby d_prog_21_method_2_code_5) _ ?_
    rw [len_of S124 M124]
    show Steps p.tables e below (s₁.setTop (mkF m 6 #[.val (.ref a1), .val (.int 0), .unset, .unset, .unset] [(.int 10), (.int 10)])) _
    refine own_iconst X0.here hx (4 : Int32) (hb hby d_prog_21_method_2_code_6) rfl ?_
    refine own_irem X0.here hx (hb hby d_prog_21_method_2_code_7) (by decide) ?_
    show Steps p.tables e below (s₁.setTop (mkF m 8 #[.val (.ref a1), .val (.int 0), .unset, .unset, .unset] [(.int 2), (.int 10)])) _
    refine own_isub X0.here hx (hb hby d_prog_21_method_2_code_8) ?_
    show Steps p.tables e below (s₁.setTop (mkF m 9 #[.val (.ref a1), .val (.int 0), .unset, .unset, .unset] [(.int 8)])) _
    refine own_istoreN X0.here hx (hb hby d_prog_21_method_2_code_9) (l' := #[.val (.ref a1), .val (.int 0), .val (.int 8), .unset, .unset]) rfl ?_
    refine own_iconst X0.here hx (0 : Int32) (hb hby d_prog_21_method_2_code_10) rfl ?_
    refine own_istoreN X0.here hx (hb hby d_prog_21_method_2_code_11) (l' := #[.val (.ref a1), .val (.int 0), .val (.int 8), .val (.int 0), .unset]) rfl ?_
    refine own_iloadN X0.here hx (hb hby d_prog_21_method_2_code_12) rfl ?_
    refine own_iloadN X0.here hx (hb hby d_prog_21_method_2_code_13) rfl ?_
    refine own_icmpNo X0.here hx (hb hby d_prog_21_method_2_code_14) (tlt (by decide : (0 : Int32) < (8 : Int32))).2.1 ?_
    refine own_aloadN X0.here hx (hb hby d_prog_21_method_2_code_17) rfl rfl ?_
    refine own_iloadN X0.here hx (hb hby d_prog_21_method_2_code_18) rfl ?_
    refine X0.baloadBytes hx (j := (0 : Int32)) (v := (.int x0)) (by rw [e0]; exact Ar125.1) (State.isArrayOf_alike hZ.alike Ar125.2.1) Ar125.2.2 hin125 hat125 (g := (mkF m 19 #[.val (.ref a1), .val (.int 0), .val (.int 8), .val (.int 0), .unset] [(.int 0), (.ref a1)])) rfl rfl (hb hby d_prog_21_method_2_code_19) _ ?_
    show Steps p.tables e below (s₁.setTop (mkF m 20 #[.val (.ref a1), .val (.int 0), .val (.int 8), .val (.int 0), .unset] [(.int x0)])) _
    refine own_sipush X0.here hx (255 : Int32) (hb hby d_prog_21_method_2_code_20) rfl ?_
    refine own_iand X0.here hx (hb hby d_prog_21_method_2_code_23) ?_
    refine own_aloadN X0.here hx (hb hby d_prog_21_method_2_code_24) rfl rfl ?_
    refine own_iloadN X0.here hx (hb hby d_prog_21_method_2_code_25) rfl ?_
    refine own_iconst X0.here hx (1 : Int32) (hb hby d_prog_21_method_2_code_26) rfl ?_
    refine own_iadd X0.here hx (hb hby d_prog_21_method_2_code_27) ?_
    show Steps p.tables e below (s₁.setTop (mkF m 28 #[.val (.ref a1), .val (.int 0), .val (.int 8), .val (.int 0), .unset] [(.int 1), (.ref a1), (.int (x0 &&& (255 : Int32)))])) _
    refine X0.baloadBytes hx (j := (1 : Int32)) (v := (.int x1)) (by rw [e0]; exact Ar126.1) (State.isArrayOf_alike hZ.alike Ar126.2.1) Ar126.2.2 hin126 hat126 (g := (mkF m 28 #[.val (.ref a1), .val (.int 0), .val (.int 8), .val (.int 0), .unset] [(.int 1), (.ref a1), (.int (x0 &&& (255 : Int32)))])) rfl rfl (hb hby d_prog_21_method_2_code_28) _ ?_
    show Steps p.tables e below (s₁.setTop (mkF m 29 #[.val (.ref a1), .val (.int 0), .val (.int 8), .val (.int 0), .unset] [(.int x1), (.int (x0 &&& (255 : Int32)))])) _
    refine own_sipush X0.here hx (255 : Int32) (hb hby d_prog_21_method_2_code_29) rfl ?_
    refine own_iand X0.here hx (hb hby d_prog_21_method_2_code_32) ?_
    refine own_bipush X0.here hx (8 : Int32) (hb hby d_prog_21_method_2_code_33) rfl ?_
    refine own_ishl X0.here hx (hb hby d_prog_21_method_2_code_35) ?_
    refine own_ior X0.here hx (hb hby d_prog_21_method_2_code_36) ?_
    refine own_aloadN X0.here hx (hb hby d_prog_21_method_2_code_37) rfl rfl ?_
    refine own_iloadN X0.here hx (hb hby d_prog_21_method_2_code_38) rfl ?_
    refine own_iconst X0.here hx (2 : Int32) (hb hby d_prog_21_method_2_code_39) rfl ?_
    refine own_iadd X0.here hx (hb hby d_prog_21_method_2_code_40) ?_
    show Steps p.tables e below (s₁.setTop (mkF m 41 #[.val (.ref a1), .val (.int 0), .val (.int 8), .val (.int 0), .unset] [(.int 2), (.ref a1), (.int ((x0 &&& (255 : Int32)) ||| ((x1 &&& (255 : Int32)) <<< ((8 : Int32) &&& 31))))])) _
    refine X0.baloadBytes hx (j := (2 : Int32)) (v := (.int x2)) (by rw [e0]; exact Ar127.1) (State.isArrayOf_alike hZ.alike Ar127.2.1) Ar127.2.2 hin127 hat127 (g := (mkF m 41 #[.val (.ref a1), .val (.int 0), .val (.int 8), .val (.int 0), .unset] [(.int 2), (.ref a1), (.int ((x0 &&& (255 : Int32)) ||| ((x1 &&& (255 : Int32)) <<< ((8 : Int32) &&& 31))))])) rfl rfl (hb hby d_prog_21_method_2_code_41) _ ?_
    show Steps p.tables e below (s₁.setTop (mkF m 42 #[.val (.ref a1), .val (.int 0), .val (.int 8), .val (.int 0), .unset] [(.int x2), (.int ((x0 &&& (255 : Int32)) ||| ((x1 &&& (255 : Int32)) <<< ((8 : Int32) &&& 31))))])) _
    refine own_sipush X0.here hx (255 : Int32) (hb hby d_prog_21_method_2_code_42) rfl ?_
    refine own_iand X0.here hx (hb hby d_prog_21_method_2_code_45) ?_
    refine own_bipush X0.here hx (16 : Int32) (hb hby d_prog_21_method_2_code_46) rfl ?_
    refine own_ishl X0.here hx (hb hby d_prog_21_method_2_code_48) ?_
    refine own_ior X0.here hx (hb hby d_prog_21_method_2_code_49) ?_
    refine own_aloadN X0.here hx (hb hby d_prog_21_method_2_code_50) rfl rfl ?_
    refine own_iloadN X0.here hx (hb hby d_prog_21_method_2_code_51) rfl ?_
    refine own_iconst X0.here hx (3 : Int32) (hb hby d_prog_21_method_2_code_52) rfl ?_
    refine own_iadd X0.here hx (hb hby d_prog_21_method_2_code_53) ?_
    show Steps p.tables e below (s₁.setTop (mkF m 54 #[.val (.ref a1), .val (.int 0), .val (.int 8), .val (.int 0), .unset] [(.int 3), (.ref a1), (.int (((x0 &&& (255 : Int32)) ||| ((x1 &&& (255 : Int32)) <<< ((8 : Int32) &&& 31))) ||| ((x2 &&& (255 : Int32)) <<< ((16 : Int32) &&& 31))))])) _
    refine X0.baloadBytes hx (j := (3 : Int32)) (v := (.int x3)) (by rw [e0]; exact Ar128.1) (State.isArrayOf_alike hZ.alike Ar128.2.1) Ar128.2.2 hin128 hat128 (g := (mkF m 54 #[.val (.ref a1), .val (.int 0), .val (.int 8), .val (.int 0), .unset] [(.int 3), (.ref a1), (.int (((x0 &&& (255 : Int32)) ||| ((x1 &&& (255 : Int32)) <<< ((8 : Int32) &&& 31))) ||| ((x2 &&& (255 : Int32)) <<< ((16 : Int32) &&& 31))))])) rfl rfl (hb hby d_prog_21_method_2_code_54) _ ?_
    show Steps p.tables e below (s₁.setTop (mkF m 55 #[.val (.ref a1), .val (.int 0), .val (.int 8), .val (.int 0), .unset] [(.int x3), (.int (((x0 &&& (255 : Int32)) ||| ((x1 &&& (255 : Int32)) <<< ((8 : Int32) &&& 31))) ||| ((x2 &&& (255 : Int32)) <<< ((16 : Int32) &&& 31))))])) _
    refine own_bipush X0.here hx (24 : Int32) (hb hby d_prog_21_method_2_code_55) rfl ?_
    refine own_ishl X0.here hx (hb hby d_prog_21_method_2_code_57) ?_
    refine own_ior X0.here hx (hb hby d_prog_21_method_2_code_58) ?_
    show Steps p.tables e below (s₁.setTop (mkF m 59 #[.val (.ref a1), .val (.int 0), .val (.int 8), .val (.int 0), .unset] [(.int (own_blk x0 x1 x2 x3))])) _
    refine own_istore X0.here hx (hb hby d_prog_21_method_2_code_59) (l' := #[.val (.ref a1), .val (.int 0), .val (.int 8), .val (.int 0), .val (.int (own_blk x0 x1 x2 x3))]) rfl ?_
    refine own_iloadN X0.here hx (hb hby d_prog_21_method_2_code_61) rfl ?_
    refine own_iload X0.here hx (hb hby d_prog_21_method_2_code_62) rfl ?_
    refine st129 _ ?_
    show Steps p.tables e below (T129.setTop (mkF m 67 #[.val (.ref a1), .val (.int 0), .val (.int 8), .val (.int 0), .val (.int (own_blk x0 x1 x2 x3))] [(.int (own_scr (own_blk x0 x1 x2 x3))), (.int 0)])) _
    refine own_ixor X129.here hx (hb hby d_prog_21_method_2_code_67) ?_
    refine own_istoreN X129.here hx (hb hby d_prog_21_method_2_code_68) (l' := #[.val (.ref a1), .val (.int ((0 : Int32) ^^^ (own_scr (own_blk x0 x1 x2 x3)))), .val (.int 8), .val (.int 0), .val (.int (own_blk x0 x1 x2 x3))]) rfl ?_
    refine own_iloadN X129.here hx (hb hby d_prog_21_method_2_code_69) rfl ?_
    refine own_bipush X129.here hx (13 : Int32) (hb hby d_prog_21_method_2_code_70) rfl ?_
    refine st130 _ ?_
    show Steps p.tables e below (T130.setTop (mkF m 75 #[.val (.ref a1), .val (.int ((0 : Int32) ^^^ (own_scr (own_blk x0 x1 x2 x3)))), .val (.int 8), .val (.int 0), .val (.int (own_blk x0 x1 x2 x3))] [(.int (own_rotl ((0 : Int32) ^^^ (own_scr (own_blk x0 x1 x2 x3))) (13 : Int32)))])) _
    refine own_iconst X130.here hx (5 : Int32) (hb hby d_prog_21_method_2_code_75) rfl ?_
    refine own_imul X130.here hx (hb hby d_prog_21_method_2_code_76) ?_
    refine X130.ldcInt hx hown (mvT hZ (hw _ (List.mem_of_getElem? (i := 29) rfl))) (g := (mkF m 77 #[.val (.ref a1), .val (.int ((0 : Int32) ^^^ (own_scr (own_blk x0 x1 x2 x3)))), .val (.int 8), .val (.int 0), .val (.int (own_blk x0 x1 x2 x3))] [(.int ((own_rotl ((0 : Int32) ^^^ (own_scr (own_blk x0 x1 x2 x3))) (13 : Int32)) * (5 : Int32)))])) rfl (hb hby d_prog_21_method_2_code_77) _ ?_
    show Steps p.tables e below (T130.setTop (mkF m 79 #[.val (.ref a1), .val (.int ((0 : Int32) ^^^ (own_scr (own_blk x0 x1 x2 x3)))), .val (.int 8), .val (.int 0), .val (.int (own_blk x0 x1 x2 x3))] [(.int (-430675100)), (.int ((own_rotl ((0 : Int32) ^^^ (own_scr (own_blk x0 x1 x2 x3))) (13 : Int32)) * (5 : Int32)))])) _
    refine own_iadd X130.here hx (hb hby d_prog_21_method_2_code_79) ?_
    show Steps p.tables e below (T130.setTop (mkF m 80 #[.val (.ref a1), .val (.int ((0 : Int32) ^^^ (own_scr (own_blk x0 x1 x2 x3)))), .val (.int 8), .val (.int 0), .val (.int (own_blk x0 x1 x2 x3))] [(.int (own_mb (0 : Int32) (own_blk x0 x1 x2 x3)))])) _
    refine own_istoreN X130.here hx (hb hby d_prog_21_method_2_code_80) (l' := #[.val (.ref a1), .val (.int (own_mb (0 : Int32) (own_blk x0 x1 x2 x3))), .val (.int 8), .val (.int 0), .val (.int (own_blk x0 x1 x2 x3))]) rfl ?_
    refine own_iinc X130.here hx (4 : Int32) (hb hby d_prog_21_method_2_code_81) rfl rfl (l' := #[.val (.ref a1), .val (.int (own_mb (0 : Int32) (own_blk x0 x1 x2 x3))), .val (.int 8), .val (.int 4), .val (.int (own_blk x0 x1 x2 x3))]) rfl ?_
    refine own_goto X130.here hx 84 12 rfl (hb hby d_prog_21_method_2_code_84) (by decide) (by decide) ?_
    refine own_iloadN X130.here hx (hb hby d_prog_21_method_2_code_12) rfl ?_
    refine own_iloadN X130.here hx (hb hby d_prog_21_method_2_code_13) rfl ?_
    refine own_icmpNo X130.here hx (hb hby d_prog_21_method_2_code_14) (tlt (by decide : (4 : Int32) < (8 : Int32))).2.1 ?_
    refine own_aloadN X130.here hx (hb hby d_prog_21_method_2_code_17) rfl rfl ?_
    refine own_iloadN X130.here hx (hb hby d_prog_21_method_2_code_18) rfl ?_
    refine X130.baloadBytes hx (j := (4 : Int32)) (v := (.int x4)) (by rw [e130]; exact Ar131.1) (State.isArrayOf_alike hZ.alike Ar131.2.1) Ar131.2.2 hin131 hat131 (g := (mkF m 19 #[.val (.ref a1), .val (.int (own_mb (0 : Int32) (own_blk x0 x1 x2 x3))), .val (.int 8), .val (.int 4), .val (.int (own_blk x0 x1 x2 x3))] [(.int 4), (.ref a1)])) rfl rfl (hb hby d_prog_21_method_2_code_19) _ ?_
    show Steps p.tables e below (T130.setTop (mkF m 20 #[.val (.ref a1), .val (.int (own_mb (0 : Int32) (own_blk x0 x1 x2 x3))), .val (.int 8), .val (.int 4), .val (.int (own_blk x0 x1 x2 x3))] [(.int x4)])) _
    refine own_sipush X130.here hx (255 : Int32) (hb hby d_prog_21_method_2_code_20) rfl ?_
    refine own_iand X130.here hx (hb hby d_prog_21_method_2_code_23) ?_
    refine own_aloadN X130.here hx (hb hby d_prog_21_method_2_code_24) rfl rfl ?_
    refine own_iloadN X130.here hx (hb hby d_prog_21_method_2_code_25) rfl ?_
    refine own_iconst X130.here hx (1 : Int32) (hb hby d_prog_21_method_2_code_26) rfl ?_
    refine own_iadd X130.here hx (hb hby d_prog_21_method_2_code_27) ?_
    show Steps p.tables e below (T130.setTop (mkF m 28 #[.val (.ref a1), .val (.int (own_mb (0 : Int32) (own_blk x0 x1 x2 x3))), .val (.int 8), .val (.int 4), .val (.int (own_blk x0 x1 x2 x3))] [(.int 5), (.ref a1), (.int (x4 &&& (255 : Int32)))])) _
    refine X130.baloadBytes hx (j := (5 : Int32)) (v := (.int x5)) (by rw [e130]; exact Ar132.1) (State.isArrayOf_alike hZ.alike Ar132.2.1) Ar132.2.2 hin132 hat132 (g := (mkF m 28 #[.val (.ref a1), .val (.int (own_mb (0 : Int32) (own_blk x0 x1 x2 x3))), .val (.int 8), .val (.int 4), .val (.int (own_blk x0 x1 x2 x3))] [(.int 5), (.ref a1), (.int (x4 &&& (255 : Int32)))])) rfl rfl (hb hby d_prog_21_method_2_code_28) _ ?_
    show Steps p.tables e below (T130.setTop (mkF m 29 #[.val (.ref a1), .val (.int (own_mb (0 : Int32) (own_blk x0 x1 x2 x3))), .val (.int 8), .val (.int 4), .val (.int (own_blk x0 x1 x2 x3))] [(.int x5), (.int (x4 &&& (255 : Int32)))])) _
    refine own_sipush X130.here hx (255 : Int32) (hb hby d_prog_21_method_2_code_29) rfl ?_
    refine own_iand X130.here hx (hb hby d_prog_21_method_2_code_32) ?_
    refine own_bipush X130.here hx (8 : Int32) (hb hby d_prog_21_method_2_code_33) rfl ?_
    refine own_ishl X130.here hx (hb hby d_prog_21_method_2_code_35) ?_
    refine own_ior X130.here hx (hb hby d_prog_21_method_2_code_36) ?_
    refine own_aloadN X130.here hx (hb hby d_prog_21_method_2_code_37) rfl rfl ?_
    refine own_iloadN X130.here hx (hb hby d_prog_21_method_2_code_38) rfl ?_
    refine own_iconst X130.here hx (2 : Int32) (hb hby d_prog_21_method_2_code_39) rfl ?_
    refine own_iadd X130.here hx (hb hby d_prog_21_method_2_code_40) ?_
    show Steps p.tables e below (T130.setTop (mkF m 41 #[.val (.ref a1), .val (.int (own_mb (0 : Int32) (own_blk x0 x1 x2 x3))), .val (.int 8), .val (.int 4), .val (.int (own_blk x0 x1 x2 x3))] [(.int 6), (.ref a1), (.int ((x4 &&& (255 : Int32)) ||| ((x5 &&& (255 : Int32)) <<< ((8 : Int32) &&& 31))))])) _
    refine X130.baloadBytes hx (j := (6 : Int32)) (v := (.int x6)) (by rw [e130]; exact Ar133.1) (State.isArrayOf_alike hZ.alike Ar133.2.1) Ar133.2.2 hin133 hat133 (g := (mkF m 41 #[.val (.ref a1), .val (.int (own_mb (0 : Int32) (own_blk x0 x1 x2 x3))), .val (.int 8), .val (.int 4), .val (.int (own_blk x0 x1 x2 x3))] [(.int 6), (.ref a1), (.int ((x4 &&& (255 : Int32)) ||| ((x5 &&& (255 : Int32)) <<< ((8 : Int32) &&& 31))))])) rfl rfl (hb hby d_prog_21_method_2_code_41) _ ?_
    show Steps p.tables e below (T130.setTop (mkF m 42 #[.val (.ref a1), .val (.int (own_mb (0 : Int32) (own_blk x0 x1 x2 x3))), .val (.int 8), .val (.int 4), .val (.int (own_blk x0 x1 x2 x3))] [(.int x6), (.int ((x4 &&& (255 : Int32)) ||| ((x5 &&& (255 : Int32)) <<< ((8 : Int32) &&& 31))))])) _
    refine own_sipush X130.here hx (255 : Int32) (hb hby d_prog_21_method_2_code_42) rfl ?_
    refine own_iand X130.here hx (hb hby d_prog_21_method_2_code_45) ?_
    refine own_bipush X130.here hx (16 : Int32) (hb hby d_prog_21_method_2_code_46) rfl ?_
    refine own_ishl X130.here hx (hb hby d_prog_21_method_2_code_48) ?_
    refine own_ior X130.here hx (hb hby d_prog_21_method_2_code_49) ?_
    refine own_aloadN X130.here hx (hb hby d_prog_21_method_2_code_50) rfl rfl ?_
    refine own_iloadN X130.here hx (hb hby d_prog_21_method_2_code_51) rfl ?_
    refine own_iconst X130.here hx (3 : Int32) (hb hby d_prog_21_method_2_code_52) rfl ?_
    refine own_iadd X130.here hx (hb hby d_prog_21_method_2_code_53) ?_
    show Steps p.tables e below (T130.setTop (mkF m 54 #[.val (.ref a1), .val (.int (own_mb (0 : Int32) (own_blk x0 x1 x2 x3))), .val (.int 8), .val (.int 4), .val (.int (own_blk x0 x1 x2 x3))] [(.int 7), (.ref a1), (.int (((x4 &&& (255 : Int32)) ||| ((x5 &&& (255 : Int32)) <<< ((8 : Int32) &&& 31))) ||| ((x6 &&& (255 : Int32)) <<< ((16 : Int32) &&& 31))))])) _
    refine X130.baloadBytes hx (j := (7 : Int32)) (v := (.int x7)) (by rw [e130]; exact Ar134.1) (State.isArrayOf_alike hZ.alike Ar134.2.1) Ar134.2.2 hin134 hat134 (g := (mkF m 54 #[.val (.ref a1), .val (.int (own_mb (0 : Int32) (own_blk x0 x1 x2 x3))), .val (.int 8), .val (.int 4), .val (.int (own_blk x0 x1 x2 x3))] [(.int 7), (.ref a1), (.int (((x4 &&& (255 : Int32)) ||| ((x5 &&& (255 : Int32)) <<< ((8 : Int32) &&& 31))) ||| ((x6 &&& (255 : Int32)) <<< ((16 : Int32) &&& 31))))])) rfl rfl (hb hby d_prog_21_method_2_code_54) _ ?_
    show Steps p.tables e below (T130.setTop (mkF m 55 #[.val (.ref a1), .val (.int (own_mb (0 : Int32) (own_blk x0 x1 x2 x3))), .val (.int 8), .val (.int 4), .val (.int (own_blk x0 x1 x2 x3))] [(.int x7), (.int (((x4 &&& (255 : Int32)) ||| ((x5 &&& (255 : Int32)) <<< ((8 : Int32) &&& 31))) ||| ((x6 &&& (255 : Int32)) <<< ((16 : Int32) &&& 31))))])) _
    refine own_bipush X130.here hx (24 : Int32) (hb hby d_prog_21_method_2_code_55) rfl ?_
    refine own_ishl X130.here hx (hb hby d_prog_21_method_2_code_57) ?_
    refine own_ior X130.here hx (hb hby d_prog_21_method_2_code_58) ?_
    show Steps p.tables e below (T130.setTop (mkF m 59 #[.val (.ref a1), .val (.int (own_mb (0 : Int32) (own_blk x0 x1 x2 x3))), .val (.int 8), .val (.int 4), .val (.int (own_blk x0 x1 x2 x3))] [(.int (own_blk x4 x5 x6 x7))])) _
    refine own_istore X130.here hx (hb hby d_prog_21_method_2_code_59) (l' := #[.val (.ref a1), .val (.int (own_mb (0 : Int32) (own_blk x0 x1 x2 x3))), .val (.int 8), .val (.int 4), .val (.int (own_blk x4 x5 x6 x7))]) rfl ?_
    refine own_iloadN X130.here hx (hb hby d_prog_21_method_2_code_61) rfl ?_
    refine own_iload X130.here hx (hb hby d_prog_21_method_2_code_62) rfl ?_
    refine st135 _ ?_
    show Steps p.tables e below (T135.setTop (mkF m 67 #[.val (.ref a1), .val (.int (own_mb (0 : Int32) (own_blk x0 x1 x2 x3))), .val (.int 8), .val (.int 4), .val (.int (own_blk x4 x5 x6 x7))] [(.int (own_scr (own_blk x4 x5 x6 x7))), (.int (own_mb (0 : Int32) (own_blk x0 x1 x2 x3)))])) _
    refine own_ixor X135.here hx (hb hby d_prog_21_method_2_code_67) ?_
    refine own_istoreN X135.here hx (hb hby d_prog_21_method_2_code_68) (l' := #[.val (.ref a1), .val (.int ((own_mb (0 : Int32) (own_blk x0 x1 x2 x3)) ^^^ (own_scr (own_blk x4 x5 x6 x7)))), .val (.int 8), .val (.int 4), .val (.int (own_blk x4 x5 x6 x7))]) rfl ?_
    refine own_iloadN X135.here hx (hb hby d_prog_21_method_2_code_69) rfl ?_
    refine own_bipush X135.here hx (13 : Int32) (hb hby d_prog_21_method_2_code_70) rfl ?_
    refine st136 _ ?_
    show Steps p.tables e below (T136.setTop (mkF m 75 #[.val (.ref a1), .val (.int ((own_mb (0 : Int32) (own_blk x0 x1 x2 x3)) ^^^ (own_scr (own_blk x4 x5 x6 x7)))), .val (.int 8), .val (.int 4), .val (.int (own_blk x4 x5 x6 x7))] [(.int (own_rotl ((own_mb (0 : Int32) (own_blk x0 x1 x2 x3)) ^^^ (own_scr (own_blk x4 x5 x6 x7))) (13 : Int32)))])) _
    refine own_iconst X136.here hx (5 : Int32) (hb hby d_prog_21_method_2_code_75) rfl ?_
    refine own_imul X136.here hx (hb hby d_prog_21_method_2_code_76) ?_
    refine X136.ldcInt hx hown (mvT hZ (hw _ (List.mem_of_getElem? (i := 29) rfl))) (g := (mkF m 77 #[.val (.ref a1), .val (.int ((own_mb (0 : Int32) (own_blk x0 x1 x2 x3)) ^^^ (own_scr (own_blk x4 x5 x6 x7)))), .val (.int 8), .val (.int 4), .val (.int (own_blk x4 x5 x6 x7))] [(.int ((own_rotl ((own_mb (0 : Int32) (own_blk x0 x1 x2 x3)) ^^^ (own_scr (own_blk x4 x5 x6 x7))) (13 : Int32)) * (5 : Int32)))])) rfl (hb hby d_prog_21_method_2_code_77) _ ?_
    show Steps p.tables e below (T136.setTop (mkF m 79 #[.val (.ref a1), .val (.int ((own_mb (0 : Int32) (own_blk x0 x1 x2 x3)) ^^^ (own_scr (own_blk x4 x5 x6 x7)))), .val (.int 8), .val (.int 4), .val (.int (own_blk x4 x5 x6 x7))] [(.int (-430675100)), (.int ((own_rotl ((own_mb (0 : Int32) (own_blk x0 x1 x2 x3)) ^^^ (own_scr (own_blk x4 x5 x6 x7))) (13 : Int32)) * (5 : Int32)))])) _
    refine own_iadd X136.here hx (hb hby d_prog_21_method_2_code_79) ?_
    show Steps p.tables e below (T136.setTop (mkF m 80 #[.val (.ref a1), .val (.int ((own_mb (0 : Int32) (own_blk x0 x1 x2 x3)) ^^^ (own_scr (own_blk x4 x5 x6 x7)))), .val (.int 8), .val (.int 4), .val (.int (own_blk x4 x5 x6 x7))] [(.int (own_mb (own_mb (0 : Int32) (own_blk x0 x1 x2 x3)) (own_blk x4 x5 x6 x7)))])) _
    refine own_istoreN X136.here hx (hb hby d_prog_21_method_2_code_80) (l' := #[.val (.ref a1), .val (.int (own_mb (own_mb (0 : Int32) (own_blk x0 x1 x2 x3)) (own_blk x4 x5 x6 x7))), .val (.int 8), .val (.int 4), .val (.int (own_blk x4 x5 x6 x7))]) rfl ?_
    refine own_iinc X136.here hx (4 : Int32) (hb hby d_prog_21_method_2_code_81) rfl rfl (l' := #[.val (.ref a1), .val (.int (own_mb (own_mb (0 : Int32) (own_blk x0 x1 x2 x3)) (own_blk x4 x5 x6 x7))), .val (.int 8), .val (.int 8), .val (.int (own_blk x4 x5 x6 x7))]) rfl ?_
    refine own_goto X136.here hx 84 12 rfl (hb hby d_prog_21_method_2_code_84) (by decide) (by decide) ?_
    refine own_iloadN X136.here hx (hb hby d_prog_21_method_2_code_12) rfl ?_
    refine own_iloadN X136.here hx (hb hby d_prog_21_method_2_code_13) rfl ?_
    refine own_icmpYes X136.here hx 14 87 rfl (hb hby d_prog_21_method_2_code_14) (flt (by decide : ¬ ((8 : Int32) < (8 : Int32)))).2.1 (by decide) (by decide) ?_
    refine own_iconst X136.here hx (0 : Int32) (hb hby d_prog_21_method_2_code_87) rfl ?_
    refine own_istoreN X136.here hx (hb hby d_prog_21_method_2_code_88) (l' := #[.val (.ref a1), .val (.int (own_mb (own_mb (0 : Int32) (own_blk x0 x1 x2 x3)) (own_blk x4 x5 x6 x7))), .val (.int 8), .val (.int 0), .val (.int (own_blk x4 x5 x6 x7))]) rfl ?_
    refine own_aloadN X136.here hx (hb hby d_prog_21_method_2_code_89) rfl rfl ?_
    refine X136.arraylength hx (by rw [e136]; exact Ar137.1) (State.isArrayOf_alike hZ.alike Ar137.2.1) (g := (mkF m 90 #[.val (.ref a1), .val (.int (own_mb (own_mb (0 : Int32) (own_blk x0 x1 x2 x3)) (own_blk x4 x5 x6 x7))), .val (.int 8), .val (.int 0), .val (.int (own_blk x4 x5 x6 x7))] [(.ref a1)])) rfl rfl (hb hby d_prog_21_method_2_code_90) _ ?_
    rw [len_of S137 M137]
    show Steps p.tables e below (T136.setTop (mkF m 91 #[.val (.ref a1), .val (.int (own_mb (own_mb (0 : Int32) (own_blk x0 x1 x2 x3)) (own_blk x4 x5 x6 x7))), .val (.int 8), .val (.int 0), .val (.int (own_blk x4 x5 x6 x7))] [(.int 10)])) _
    refine own_iconst X136.here hx (1 : Int32) (hb hby d_prog_21_method_2_code_91) rfl ?_
    refine own_isub X136.here hx (hb hby d_prog_21_method_2_code_92) ?_
    show Steps p.tables e below (T136.setTop (mkF m 93 #[.val (.ref a1), .val (.int (own_mb (own_mb (0 : Int32) (own_blk x0 x1 x2 x3)) (own_blk x4 x5 x6 x7))), .val (.int 8), .val (.int 0), .val (.int (own_blk x4 x5 x6 x7))] [(.int 9)])) _
    refine own_istore X136.here hx (hb hby d_prog_21_method_2_code_93) (l' := #[.val (.ref a1), .val (.int (own_mb (own_mb (0 : Int32) (own_blk x0 x1 x2 x3)) (own_blk x4 x5 x6 x7))), .val (.int 8), .val (.int 0), .val (.int 9)]) rfl ?_
    refine own_iload X136.here hx (hb hby d_prog_21_method_2_code_95) rfl ?_
    refine own_iloadN X136.here hx (hb hby d_prog_21_method_2_code_97) rfl ?_
    refine own_icmpNo X136.here hx (hb hby d_prog_21_method_2_code_98) (flt (by decide : ¬ ((9 : Int32) < (8 : Int32)))).1 ?_
    refine own_iloadN X136.here hx (hb hby d_prog_21_method_2_code_101) rfl ?_
    refine own_bipush X136.here hx (8 : Int32) (hb hby d_prog_21_method_2_code_102) rfl ?_
    refine own_ishl X136.here hx (hb hby d_prog_21_method_2_code_104) ?_
    show Steps p.tables e below (T136.setTop (mkF m 105 #[.val (.ref a1), .val (.int (own_mb (own_mb (0 : Int32) (own_blk x0 x1 x2 x3)) (own_blk x4 x5 x6 x7))), .val (.int 8), .val (.int 0), .val (.int 9)] [(.int 0)])) _
    refine own_aloadN X136.here hx (hb hby d_prog_21_method_2_code_105) rfl rfl ?_
    refine own_iload X136.here hx (hb hby d_prog_21_method_2_code_106) rfl ?_
    refine X136.baloadBytes hx (j := (9 : Int32)) (v := (.int x9)) (by rw [e136]; exact Ar138.1) (State.isArrayOf_alike hZ.alike Ar138.2.1) Ar138.2.2 hin138 hat138 (g := (mkF m 108 #[.val (.ref a1), .val (.int (own_mb (own_mb (0 : Int32) (own_blk x0 x1 x2 x3)) (own_blk x4 x5 x6 x7))), .val (.int 8), .val (.int 0), .val (.int 9)] [(.int 9), (.ref a1), (.int 0)])) rfl rfl (hb hby d_prog_21_method_2_code_108) _ ?_
    show Steps p.tables e below (T136.setTop (mkF m 109 #[.val (.ref a1), .val (.int (own_mb (own_mb (0 : Int32) (own_blk x0 x1 x2 x3)) (own_blk x4 x5 x6 x7))), .val (.int 8), .val (.int 0), .val (.int 9)] [(.int x9), (.int 0)])) _
    refine own_sipush X136.here hx (255 : Int32) (hb hby d_prog_21_method_2_code_109) rfl ?_
    refine own_iand X136.here hx (hb hby d_prog_21_method_2_code_112) ?_
    refine own_ior X136.here hx (hb hby d_prog_21_method_2_code_113) ?_
    show Steps p.tables e below (T136.setTop (mkF m 114 #[.val (.ref a1), .val (.int (own_mb (own_mb (0 : Int32) (own_blk x0 x1 x2 x3)) (own_blk x4 x5 x6 x7))), .val (.int 8), .val (.int 0), .val (.int 9)] [(.int (own_t1 x9))])) _
    refine own_istoreN X136.here hx (hb hby d_prog_21_method_2_code_114) (l' := #[.val (.ref a1), .val (.int (own_mb (own_mb (0 : Int32) (own_blk x0 x1 x2 x3)) (own_blk x4 x5 x6 x7))), .val (.int 8), .val (.int (own_t1 x9)), .val (.int 9)]) rfl ?_
    refine own_iinc X136.here hx (-1 : Int32) (hb hby d_prog_21_method_2_code_115) rfl rfl (l' := #[.val (.ref a1), .val (.int (own_mb (own_mb (0 : Int32) (own_blk x0 x1 x2 x3)) (own_blk x4 x5 x6 x7))), .val (.int 8), .val (.int (own_t1 x9)), .val (.int 8)]) rfl ?_
    refine own_goto X136.here hx 118 95 rfl (hb hby d_prog_21_method_2_code_118) (by decide) (by decide) ?_
    refine own_iload X136.here hx (hb hby d_prog_21_method_2_code_95) rfl ?_
    refine own_iloadN X136.here hx (hb hby d_prog_21_method_2_code_97) rfl ?_
    refine own_icmpNo X136.here hx (hb hby d_prog_21_method_2_code_98) (flt (by decide : ¬ ((8 : Int32) < (8 : Int32)))).1 ?_
    refine own_iloadN X136.here hx (hb hby d_prog_21_method_2_code_101) rfl ?_
    refine own_bipush X136.here hx (8 : Int32) (hb hby d_prog_21_method_2_code_102) rfl ?_
    refine own_ishl X136.here hx (hb hby d_prog_21_method_2_code_104) ?_
    refine own_aloadN X136.here hx (hb hby d_prog_21_method_2_code_105) rfl rfl ?_
    refine own_iload X136.here hx (hb hby d_prog_21_method_2_code_106) rfl ?_
    refine X136.baloadBytes hx (j := (8 : Int32)) (v := (.int x8)) (by rw [e136]; exact Ar139.1) (State.isArrayOf_alike hZ.alike Ar139.2.1) Ar139.2.2 hin139 hat139 (g := (mkF m 108 #[.val (.ref a1), .val (.int (own_mb (own_mb (0 : Int32) (own_blk x0 x1 x2 x3)) (own_blk x4 x5 x6 x7))), .val (.int 8), .val (.int (own_t1 x9)), .val (.int 8)] [(.int 8), (.ref a1), (.int ((own_t1 x9) <<< ((8 : Int32) &&& 31)))])) rfl rfl (hb hby d_prog_21_method_2_code_108) _ ?_
    show Steps p.tables e below (T136.setTop (mkF m 109 #[.val (.ref a1), .val (.int (own_mb (own_mb (0 : Int32) (own_blk x0 x1 x2 x3)) (own_blk x4 x5 x6 x7))), .val (.int 8), .val (.int (own_t1 x9)), .val (.int 8)] [(.int x8), (.int ((own_t1 x9) <<< ((8 : Int32) &&& 31)))])) _
    refine own_sipush X136.here hx (255 : Int32) (hb hby d_prog_21_method_2_code_109) rfl ?_
    refine own_iand X136.here hx (hb hby d_prog_21_method_2_code_112) ?_
    refine own_ior X136.here hx (hb hby d_prog_21_method_2_code_113) ?_
    show Steps p.tables e below (T136.setTop (mkF m 114 #[.val (.ref a1), .val (.int (own_mb (own_mb (0 : Int32) (own_blk x0 x1 x2 x3)) (own_blk x4 x5 x6 x7))), .val (.int 8), .val (.int (own_t1 x9)), .val (.int 8)] [(.int (own_t2 x8 x9))])) _
    refine own_istoreN X136.here hx (hb hby d_prog_21_method_2_code_114) (l' := #[.val (.ref a1), .val (.int (own_mb (own_mb (0 : Int32) (own_blk x0 x1 x2 x3)) (own_blk x4 x5 x6 x7))), .val (.int 8), .val (.int (own_t2 x8 x9)), .val (.int 8)]) rfl ?_
    refine own_iinc X136.here hx (-1 : Int32) (hb hby d_prog_21_method_2_code_115) rfl rfl (l' := #[.val (.ref a1), .val (.int (own_mb (own_mb (0 : Int32) (own_blk x0 x1 x2 x3)) (own_blk x4 x5 x6 x7))), .val (.int 8), .val (.int (own_t2 x8 x9)), .val (.int 7)]) rfl ?_
    refine own_goto X136.here hx 118 95 rfl (hb hby d_prog_21_method_2_code_118) (by decide) (by decide) ?_
    refine own_iload X136.here hx (hb hby d_prog_21_method_2_code_95) rfl ?_
    refine own_iloadN X136.here hx (hb hby d_prog_21_method_2_code_97) rfl ?_
    refine own_icmpYes X136.here hx 98 121 rfl (hb hby d_prog_21_method_2_code_98) (tlt (by decide : (7 : Int32) < (8 : Int32))).1 (by decide) (by decide) ?_
    refine own_iloadN X136.here hx (hb hby d_prog_21_method_2_code_121) rfl ?_
    refine own_iloadN X136.here hx (hb hby d_prog_21_method_2_code_122) rfl ?_
    refine st140 _ ?_
    show Steps p.tables e below (T140.setTop (mkF m 126 #[.val (.ref a1), .val (.int (own_mb (own_mb (0 : Int32) (own_blk x0 x1 x2 x3)) (own_blk x4 x5 x6 x7))), .val (.int 8), .val (.int (own_t2 x8 x9)), .val (.int 7)] [(.int (own_scr (own_t2 x8 x9))), (.int (own_mb (own_mb (0 : Int32) (own_blk x0 x1 x2 x3)) (own_blk x4 x5 x6 x7)))])) _
    refine own_ixor X140.here hx (hb hby d_prog_21_method_2_code_126) ?_
    refine own_istoreN X140.here hx (hb hby d_prog_21_method_2_code_127) (l' := #[.val (.ref a1), .val (.int ((own_mb (own_mb (0 : Int32) (own_blk x0 x1 x2 x3)) (own_blk x4 x5 x6 x7)) ^^^ (own_scr (own_t2 x8 x9)))), .val (.int 8), .val (.int (own_t2 x8 x9)), .val (.int 7)]) rfl ?_
    refine own_iloadN X140.here hx (hb hby d_prog_21_method_2_code_128) rfl ?_
    refine own_aloadN X140.here hx (hb hby d_prog_21_method_2_code_129) rfl rfl ?_
    refine X140.arraylength hx (by rw [e140]; exact Ar141.1) (State.isArrayOf_alike hZ.alike Ar141.2.1) (g := (mkF m 130 #[.val (.ref a1), .val (.int ((own_mb (own_mb (0 : Int32) (own_blk x0 x1 x2 x3)) (own_blk x4 x5 x6 x7)) ^^^ (own_scr (own_t2 x8 x9)))), .val (.int 8), .val (.int (own_t2 x8 x9)), .val (.int 7)] [(.ref a1), (.int ((own_mb (own_mb (0 : Int32) (own_blk x0 x1 x2 x3)) (own_blk x4 x5 x6 x7)) ^^^ (own_scr (own_t2 x8 x9))))])) rfl rfl (hb hby d_prog_21_method_2_code_130) _ ?_
    rw [len_of S141 M141]
    show Steps p.tables e below (T140.setTop (mkF m 131 #[.val (.ref a1), .val (.int ((own_mb (own_mb (0 : Int32) (own_blk x0 x1 x2 x3)) (own_blk x4 x5 x6 x7)) ^^^ (own_scr (own_t2 x8 x9)))), .val (.int 8), .val (.int (own_t2 x8 x9)), .val (.int 7)] [(.int 10), (.int ((own_mb (own_mb (0 : Int32) (own_blk x0 x1 x2 x3)) (own_blk x4 x5 x6 x7)) ^^^ (own_scr (own_t2 x8 x9))))])) _
    refine own_ixor X140.here hx (hb hby d_prog_21_method_2_code_131) ?_
    refine own_istoreN X140.here hx (hb hby d_prog_21_method_2_code_132) (l' := #[.val (.ref a1), .val (.int (((own_mb (own_mb (0 : Int32) (own_blk x0 x1 x2 x3)) (own_blk x4 x5 x6 x7)) ^^^ (own_scr (own_t2 x8 x9))) ^^^ (10 : Int32))), .val (.int 8), .val (.int (own_t2 x8 x9)), .val (.int 7)]) rfl ?_
    refine own_iloadN X140.here hx (hb hby d_prog_21_method_2_code_133) rfl ?_
    refine st142 _ ?_
    show Steps p.tables e below (T142.setTop (mkF m 137 #[.val (.ref a1), .val (.int (((own_mb (own_mb (0 : Int32) (own_blk x0 x1 x2 x3)) (own_blk x4 x5 x6 x7)) ^^^ (own_scr (own_t2 x8 x9))) ^^^ (10 : Int32))), .val (.int 8), .val (.int (own_t2 x8 x9)), .val (.int 7)] [(.int (own_fin (((own_mb (own_mb (0 : Int32) (own_blk x0 x1 x2 x3)) (own_blk x4 x5 x6 x7)) ^^^ (own_scr (own_t2 x8 x9))) ^^^ (10 : Int32))))])) _
    exact retI X142 hx Bd.returns (hb hby d_prog_21_method_2_code_137) hr
  · show QH_10 Z a1 k1 x0 x1 x2 x3 x4 x5 x6 x7 x8 x9 h0 n0 _ T142.heap _
    rw [e142]
    exact ⟨rfl, N142, rfl⟩
theorem ef_rmH_11 (m : MethodId) (x0 : Addr) : entryFrame m #[(.ref x0)] 5 = mkF m 0 #[.val (.ref x0), .unset, .unset, .unset, .unset] [] := by first | (simp [entryFrame, mkF, argsToLocals, Value.category]; done) | rfl
def QH_11 (Z : State) (a1 : Addr) (k1 : ClassId) (x0 : Int32) (x1 : Int32) (x2 : Int32) (x3 : Int32) (x4 : Int32) (x5 : Int32) (x6 : Int32) (x7 : Int32) (x8 : Int32) (x9 : Int32) (x10 : Int32) (h0 : Heap) (n0 : Nat) (v : Option Value) (h : Heap) (L : List Loc) : Prop := v = some (.int (own_fin (((own_mb (own_mb (0 : Int32) (own_blk x0 x1 x2 x3)) (own_blk x4 x5 x6 x7)) ^^^ (own_scr (own_t3 x8 x9 x10))) ^^^ (11 : Int32)))) ∧ Fr n0 L ∧ h = h0
set_option maxRecDepth 65536 in
set_option maxHeartbeats 40000000 in
theorem rmH_11 (l : Launch) (Z : State) (a0 : Array Value) (hw : ∀ d ∈ tables_1, d.before a0 Z = true) (ws : List Jvm.Cond) (a1 : Addr) (k1 : ClassId) (x0 : Int32) (x1 : Int32) (x2 : Int32) (x3 : Int32) (x4 : Int32) (x5 : Int32) (x6 : Int32) (x7 : Int32) (x8 : Int32) (x9 : Int32) (x10 : Int32) (h0 : Heap) (n0 : Nat) (Z0 : n0 ≤ h0.size) (V1 : Arv Z h0 a1 k1 .byte (11 : Int32) [(.int x0), (.int x1), (.int x2), (.int x3), (.int x4), (.int x5), (.int x6), (.int x7), (.int x8), (.int x9), (.int x10)] (.int (0 : Int32))) :
    MetFree l (⟨"com/example/forkline/forkline/bucketing/MurmurHash3", "hash32", "([B)I"⟩ : MethodName) (head1 (Jvm.Cond.code (⟨"com/example/forkline/forkline/bucketing/MurmurHash3", "hash32", "([B)I"⟩ : MethodName) prog_21_method_2_code 5 (some .int) :: ws) ({ frames := 2, cells := 0, slots := 0, locals := 26 } : Room)) (fun a U => a = #[(.ref a1)] ∧ Z.Warmed39 U.vm ∧ U.heap = h0) (fun _ _ _ _ _ => True) (fun _ U o U' => ∃ v L, o = .returned v ∧ QH_11 Z a1 k1 x0 x1 x2 x3 x4 x5 x6 x7 x8 x9 x10 h0 n0 v U'.heap L ∧ FrameEnd U o U' L ({ frames := 2, cells := 0, slots := 0, locals := 26 } : Room).cells ({ frames := 2, cells := 0, slots := 0, locals := 26 } : Room).slots) := by
  refine MetFree.of_bodySF (plainFor_of_name pn_com_example_forkline_forkline_bucketing_MurmurHash3) hisR ?_
  intro p e s m args below meth c s₁ Bd hml0 hP hK
  obtain ⟨rfl, hZ, hh⟩ := hP
  have hx := Bd.exec
  have hby := Bd.bytes
  have hml : c.maxLocals = 5 := hml0
  have hown : s.vm.findClass "com/example/forkline/forkline/bucketing/MurmurHash3" = some m.cls := findClass_of_methodNamed Bd.named
  have hnm := (name_of_methodNamed Bd.named Bd.method).1
  have X0 : Stand p l e ({ frames := 2, cells := 0, slots := 0, locals := 26 } : Room) s m #[(.ref a1)] below meth c s₁ [] 0 0 := Stand.of_body Bd
  have e0 : s₁.heap = h0 := by rw [← hh, Bd.state]; rfl
  have N0 := Fr.nil n0
  have pre0 : ∀ tG, Steps p.tables e below (s₁.setTop (mkF m 0 #[.val (.ref a1), .unset, .unset, .unset, .unset] [])) tG → Steps p.tables e below (s₁.setTop (entryFrame m #[(.ref a1)] 5)) tG := fun tG kG => castTop (ef_rmH_11 m a1) kG
  obtain ⟨cl143, Ar143, -, S143, M143, -, -⟩ := id V1
  obtain ⟨cl144, Ar144, -, S144, M144, -, -⟩ := id V1
  obtain ⟨cl145, Ar145, q145, S145, M145, H145, J145⟩ := id V1
  have hin145 : ¬ ((0 : Int32) < 0 ∨ cl145.slots.size ≤ ((0 : Int32)).toNatClampNeg) := inb_of S145 ⟨by decide, by decide⟩
  have hat145 : cl145.slots[((0 : Int32)).toNatClampNeg]? = some (.int x0) := Has.at H145 hin145 rfl
  obtain ⟨cl146, Ar146, q146, S146, M146, H146, J146⟩ := id V1
  have hin146 : ¬ ((1 : Int32) < 0 ∨ cl146.slots.size ≤ ((1 : Int32)).toNatClampNeg) := inb_of S146 ⟨by decide, by decide⟩
  have hat146 : cl146.slots[((1 : Int32)).toNatClampNeg]? = some (.int x1) := Has.at H146 hin146 rfl
  obtain ⟨cl147, Ar147, q147, S147, M147, H147, J147⟩ := id V1
  have hin147 : ¬ ((2 : Int32) < 0 ∨ cl147.slots.size ≤ ((2 : Int32)).toNatClampNeg) := inb_of S147 ⟨by decide, by decide⟩
  have hat147 : cl147.slots[((2 : Int32)).toNatClampNeg]? = some (.int x2) := Has.at H147 hin147 rfl
  obtain ⟨cl148, Ar148, q148, S148, M148, H148, J148⟩ := id V1
  have hin148 : ¬ ((3 : Int32) < 0 ∨ cl148.slots.size ≤ ((3 : Int32)).toNatClampNeg) := inb_of S148 ⟨by decide, by decide⟩
  have hat148 : cl148.slots[((3 : Int32)).toNatClampNeg]? = some (.int x3) := Has.at H148 hin148 rfl
  obtain ⟨_, _, ⟨T149, L149, k149, n149⟩, -, X149, ⟨Lc149, hQ149, l149, y149, z149⟩, st149⟩ := Jvm.LawKit.callS X0 hx (y := (⟨"com/example/forkline/forkline/bucketing/MurmurHash3", "scramble", "(I)I"⟩ : MethodName)) hown (mvT hZ (hw _ (List.mem_of_getElem? (i := 8) rfl))) (mvT hZ (hw _ (List.mem_of_getElem? (i := 9) rfl))) (mvT hZ (hw _ (List.mem_of_getElem? (i := 6) rfl))) (mvT hZ (hw _ (List.mem_of_getElem? (i := 10) rfl))) (by decide) (backOf (W := 1) (rm2 l Z a0 hw [] (own_blk x0 x1 x2 x3) h0 n0 Z0) hZ (hw _ (List.mem_of_getElem? (i := 10) rfl)) (hw _ (List.mem_of_getElem? (i := 6) rfl)) (by decide) (by decide)) (g := (mkF m 64 #[.val (.ref a1), .val (.int 0), .val (.int 8), .val (.int 0), .val (.int (own_blk x0 x1 x2 x3))] [(.int (own_blk x0 x1 x2 x3)), (.int 0)])) rfl (by rw [hml]; rfl) (argsL := [(.int (own_blk x0 x1 x2 x3))]) (rest := [(.int 0)]) (lenOf pd_28I29I rfl) rfl (by show 2 * 0 + _ ≤ _; exact Nat.le_of_eq rfl) (hb hby d_prog_21_method_2_code_64) (fun _ _ => ⟨rfl, e0, (by decide : 0 + 0 ≤ _), (by decide : 0 + 0 ≤ _)⟩)
  dsimp only [Pt.U, Pt.locs, Pt.cells, Pt.slots] at X149 l149 y149 z149 st149 hQ149
  subst l149 y149 z149
  obtain ⟨rfl, N149q, e149⟩ := hQ149
  have N149 := Fr.app N0 N149q
  obtain ⟨_, _, ⟨T150, L150, k150, n150⟩, -, X150, ⟨Lc150, hQ150, l150, y150, z150⟩, st150⟩ := Jvm.LawKit.callS X149 hx (y := (⟨"java/lang/Integer", "rotateLeft", "(II)I"⟩ : MethodName)) hown (mvT hZ (hw _ (List.mem_of_getElem? (i := 12) rfl))) (mvT hZ (hw _ (List.mem_of_getElem? (i := 13) rfl))) (mvT hZ (hw _ (List.mem_of_getElem? (i := 14) rfl))) (mvT hZ (hw _ (List.mem_of_getElem? (i := 15) rfl))) (by decide) (backOf (W := 0) (rm1 l Z a0 hw [] ((0 : Int32) ^^^ (own_scr (own_blk x0 x1 x2 x3))) (13 : Int32) h0 n0 Z0) hZ (hw _ (List.mem_of_getElem? (i := 15) rfl)) (hw _ (List.mem_of_getElem? (i := 14) rfl)) (by decide) (by decide)) (g := (mkF m 72 #[.val (.ref a1), .val (.int ((0 : Int32) ^^^ (own_scr (own_blk x0 x1 x2 x3)))), .val (.int 8), .val (.int 0), .val (.int (own_blk x0 x1 x2 x3))] [(.int 13), (.int ((0 : Int32) ^^^ (own_scr (own_blk x0 x1 x2 x3))))])) rfl (by rw [hml]; rfl) (argsL := [(.int ((0 : Int32) ^^^ (own_scr (own_blk x0 x1 x2 x3)))), (.int 13)]) (rest := []) (lenOf pd_28II29I rfl) rfl (by show 2 * 0 + _ ≤ _; exact Nat.le_of_eq rfl) (hb hby d_prog_21_method_2_code_72) (fun _ _ => ⟨rfl, e149, (by decide : 0 + 0 ≤ _), (by decide : 0 + 0 ≤ _)⟩)
  dsimp only [Pt.U, Pt.locs, Pt.cells, Pt.slots] at X150 l150 y150 z150 st150 hQ150
  subst l150 y150 z150
  obtain ⟨rfl, N150q, e150⟩ := hQ150
  have N150 := Fr.app N149 N150q
  obtain ⟨cl151, Ar151, q151, S151, M151, H151, J151⟩ := id V1
  have hin151 : ¬ ((4 : Int32) < 0 ∨ cl151.slots.size ≤ ((4 : Int32)).toNatClampNeg) := inb_of S151 ⟨by decide, by decide⟩
  have hat151 : cl151.slots[((4 : Int32)).toNatClampNeg]? = some (.int x4) := Has.at H151 hin151 rfl
  obtain ⟨cl152, Ar152, q152, S152, M152, H152, J152⟩ := id V1
  have hin152 : ¬ ((5 : Int32) < 0 ∨ cl152.slots.size ≤ ((5 : Int32)).toNatClampNeg) := inb_of S152 ⟨by decide, by decide⟩
  have hat152 : cl152.slots[((5 : Int32)).toNatClampNeg]? = some (.int x5) := Has.at H152 hin152 rfl
  obtain ⟨cl153, Ar153, q153, S153, M153, H153, J153⟩ := id V1
  have hin153 : ¬ ((6 : Int32) < 0 ∨ cl153.slots.size ≤ ((6 : Int32)).toNatClampNeg) := inb_of S153 ⟨by decide, by decide⟩
  have hat153 : cl153.slots[((6 : Int32)).toNatClampNeg]? = some (.int x6) := Has.at H153 hin153 rfl
  obtain ⟨cl154, Ar154, q154, S154, M154, H154, J154⟩ := id V1
  have hin154 : ¬ ((7 : Int32) < 0 ∨ cl154.slots.size ≤ ((7 : Int32)).toNatClampNeg) := inb_of S154 ⟨by decide, by decide⟩
  have hat154 : cl154.slots[((7 : Int32)).toNatClampNeg]? = some (.int x7) := Has.at H154 hin154 rfl
  obtain ⟨_, _, ⟨T155, L155, k155, n155⟩, -, X155, ⟨Lc155, hQ155, l155, y155, z155⟩, st155⟩ := Jvm.LawKit.callS X150 hx (y := (⟨"com/example/forkline/forkline/bucketing/MurmurHash3", "scramble", "(I)I"⟩ : MethodName)) hown (mvT hZ (hw _ (List.mem_of_getElem? (i := 8) rfl))) (mvT hZ (hw _ (List.mem_of_getElem? (i := 9) rfl))) (mvT hZ (hw _ (List.mem_of_getElem? (i := 6) rfl))) (mvT hZ (hw _ (List.mem_of_getElem? (i := 10) rfl))) (by decide) (backOf (W := 1) (rm2 l Z a0 hw [] (own_blk x4 x5 x6 x7) h0 n0 Z0) hZ (hw _ (List.mem_of_getElem? (i := 10) rfl)) (hw _ (List.mem_of_getElem? (i := 6) rfl)) (by decide) (by decide)) (g := (mkF m 64 #[.val (.ref a1), .val (.int (own_mb (0 : Int32) (own_blk x0 x1 x2 x3))), .val (.int 8), .val (.int 4), .val (.int (own_blk x4 x5 x6 x7))] [(.int (own_blk x4 x5 x6 x7)), (.int (own_mb (0 : Int32) (own_blk x0 x1 x2 x3)))])) rfl (by rw [hml]; rfl) (argsL := [(.int (own_blk x4 x5 x6 x7))]) (rest := [(.int (own_mb (0 : Int32) (own_blk x0 x1 x2 x3)))]) (lenOf pd_28I29I rfl) rfl (by show 2 * 0 + _ ≤ _; exact Nat.le_of_eq rfl) (hb hby d_prog_21_method_2_code_64) (fun _ _ => ⟨rfl, e150, (by decide : 0 + 0 ≤ _), (by decide : 0 + 0 ≤ _)⟩)
  dsimp only [Pt.U, Pt.locs, Pt.cells, Pt.slots] at X155 l155 y155 z155 st155 hQ155
  subst l155 y155 z155
  obtain ⟨rfl, N155q, e155⟩ := hQ155
  have N155 := Fr.app N150 N155q
  obtain ⟨_, _, ⟨T156, L156, k156, n156⟩, -, X156, ⟨Lc156, hQ156, l156, y156, z156⟩, st156⟩ := Jvm.LawKit.callS X155 hx (y := (⟨"java/lang/Integer", "rotateLeft", "(II)I"⟩ : MethodName)) hown (mvT hZ (hw _ (List.mem_of_getElem? (i := 12) rfl))) (mvT hZ (hw _ (List.mem_of_getElem? (i := 13) rfl))) (mvT hZ (hw _ (List.mem_of_getElem? (i := 14) rfl))) (mvT hZ (hw _ (List.mem_of_getElem? (i := 15) rfl))) (by decide) (backOf (W := 0) (rm1 l Z a0 hw [] ((own_mb (0 : Int32) (own_blk x0 x1 x2 x3)) ^^^ (own_scr (own_blk x4 x5 x6 x7))) (13 : Int32) h0 n0 Z0) hZ (hw _ (List.mem_of_getElem? (i := 15) rfl)) (hw _ (List.mem_of_getElem? (i := 14) rfl)) (by decide) (by decide)) (g := (mkF m 72 #[.val (.ref a1), .val (.int ((own_mb (0 : Int32) (own_blk x0 x1 x2 x3)) ^^^ (own_scr (own_blk x4 x5 x6 x7)))), .val (.int 8), .val (.int 4), .val (.int (own_blk x4 x5 x6 x7))] [(.int 13), (.int ((own_mb (0 : Int32) (own_blk x0 x1 x2 x3)) ^^^ (own_scr (own_blk x4 x5 x6 x7))))])) rfl (by rw [hml]; rfl) (argsL := [(.int ((own_mb (0 : Int32) (own_blk x0 x1 x2 x3)) ^^^ (own_scr (own_blk x4 x5 x6 x7)))), (.int 13)]) (rest := []) (lenOf pd_28II29I rfl) rfl (by show 2 * 0 + _ ≤ _; exact Nat.le_of_eq rfl) (hb hby d_prog_21_method_2_code_72) (fun _ _ => ⟨rfl, e155, (by decide : 0 + 0 ≤ _), (by decide : 0 + 0 ≤ _)⟩)
  dsimp only [Pt.U, Pt.locs, Pt.cells, Pt.slots] at X156 l156 y156 z156 st156 hQ156
  subst l156 y156 z156
  obtain ⟨rfl, N156q, e156⟩ := hQ156
  have N156 := Fr.app N155 N156q
  obtain ⟨cl157, Ar157, -, S157, M157, -, -⟩ := id V1
  obtain ⟨cl158, Ar158, q158, S158, M158, H158, J158⟩ := id V1
  have hin158 : ¬ ((10 : Int32) < 0 ∨ cl158.slots.size ≤ ((10 : Int32)).toNatClampNeg) := inb_of S158 ⟨by decide, by decide⟩
  have hat158 : cl158.slots[((10 : Int32)).toNatClampNeg]? = some (.int x10) := Has.at H158 hin158 rfl
  obtain ⟨cl159, Ar159, q159, S159, M159, H159, J159⟩ := id V1
  have hin159 : ¬ ((9 : Int32) < 0 ∨ cl159.slots.size ≤ ((9 : Int32)).toNatClampNeg) := inb_of S159 ⟨by decide, by decide⟩
  have hat159 : cl159.slots[((9 : Int32)).toNatClampNeg]? = some (.int x9) := Has.at H159 hin159 rfl
  obtain ⟨cl160, Ar160, q160, S160, M160, H160, J160⟩ := id V1
  have hin160 : ¬ ((8 : Int32) < 0 ∨ cl160.slots.size ≤ ((8 : Int32)).toNatClampNeg) := inb_of S160 ⟨by decide, by decide⟩
  have hat160 : cl160.slots[((8 : Int32)).toNatClampNeg]? = some (.int x8) := Has.at H160 hin160 rfl
  obtain ⟨_, _, ⟨T161, L161, k161, n161⟩, -, X161, ⟨Lc161, hQ161, l161, y161, z161⟩, st161⟩ := Jvm.LawKit.callS X156 hx (y := (⟨"com/example/forkline/forkline/bucketing/MurmurHash3", "scramble", "(I)I"⟩ : MethodName)) hown (mvT hZ (hw _ (List.mem_of_getElem? (i := 8) rfl))) (mvT hZ (hw _ (List.mem_of_getElem? (i := 9) rfl))) (mvT hZ (hw _ (List.mem_of_getElem? (i := 6) rfl))) (mvT hZ (hw _ (List.mem_of_getElem? (i := 10) rfl))) (by decide) (backOf (W := 1) (rm2 l Z a0 hw [] (own_t3 x8 x9 x10) h0 n0 Z0) hZ (hw _ (List.mem_of_getElem? (i := 10) rfl)) (hw _ (List.mem_of_getElem? (i := 6) rfl)) (by decide) (by decide)) (g := (mkF m 123 #[.val (.ref a1), .val (.int (own_mb (own_mb (0 : Int32) (own_blk x0 x1 x2 x3)) (own_blk x4 x5 x6 x7))), .val (.int 8), .val (.int (own_t3 x8 x9 x10)), .val (.int 7)] [(.int (own_t3 x8 x9 x10)), (.int (own_mb (own_mb (0 : Int32) (own_blk x0 x1 x2 x3)) (own_blk x4 x5 x6 x7)))])) rfl (by rw [hml]; rfl) (argsL := [(.int (own_t3 x8 x9 x10))]) (rest := [(.int (own_mb (own_mb (0 : Int32) (own_blk x0 x1 x2 x3)) (own_blk x4 x5 x6 x7)))]) (lenOf pd_28I29I rfl) rfl (by show 2 * 0 + _ ≤ _; exact Nat.le_of_eq rfl) (hb hby d_prog_21_method_2_code_123) (fun _ _ => ⟨rfl, e156, (by decide : 0 + 0 ≤ _), (by decide : 0 + 0 ≤ _)⟩)
  dsimp only [Pt.U, Pt.locs, Pt.cells, Pt.slots] at X161 l161 y161 z161 st161 hQ161
  subst l161 y161 z161
  obtain ⟨rfl, N161q, e161⟩ := hQ161
  have N161 := Fr.app N156 N161q
  obtain ⟨cl162, Ar162, -, S162, M162, -, -⟩ := id V1
  obtain ⟨_, _, ⟨T163, L163, k163, n163⟩, -, X163, ⟨Lc163, hQ163, l163, y163, z163⟩, st163⟩ := Jvm.LawKit.callS X161 hx (y := (⟨"com/example/forkline/forkline/bucketing/MurmurHash3", "finalMix", "(I)I"⟩ : MethodName)) hown (mvT hZ (hw _ (List.mem_of_getElem? (i := 17) rfl))) (mvT hZ (hw _ (List.mem_of_getElem? (i := 18) rfl))) (mvT hZ (hw _ (List.mem_of_getElem? (i := 6) rfl))) (mvT hZ (hw _ (List.mem_of_getElem? (i := 19) rfl))) (by decide) (backOf (W := 0) (rm3 l Z a0 hw [] (((own_mb (own_mb (0 : Int32) (own_blk x0 x1 x2 x3)) (own_blk x4 x5 x6 x7)) ^^^ (own_scr (own_t3 x8 x9 x10))) ^^^ (11 : Int32)) h0 n0 Z0) hZ (hw _ (List.mem_of_getElem? (i := 19) rfl)) (hw _ (List.mem_of_getElem? (i := 6) rfl)) (by decide) (by decide)) (g := (mkF m 134 #[.val (.ref a1), .val (.int (((own_mb (own_mb (0 : Int32) (own_blk x0 x1 x2 x3)) (own_blk x4 x5 x6 x7)) ^^^ (own_scr (own_t3 x8 x9 x10))) ^^^ (11 : Int32))), .val (.int 8), .val (.int (own_t3 x8 x9 x10)), .val (.int 7)] [(.int (((own_mb (own_mb (0 : Int32) (own_blk x0 x1 x2 x3)) (own_blk x4 x5 x6 x7)) ^^^ (own_scr (own_t3 x8 x9 x10))) ^^^ (11 : Int32)))])) rfl (by rw [hml]; rfl) (argsL := [(.int (((own_mb (own_mb (0 : Int32) (own_blk x0 x1 x2 x3)) (own_blk x4 x5 x6 x7)) ^^^ (own_scr (own_t3 x8 x9 x10))) ^^^ (11 : Int32)))]) (rest := []) (lenOf pd_28I29I rfl) rfl (by show 2 * 0 + _ ≤ _; exact Nat.le_of_eq rfl) (hb hby d_prog_21_method_2_code_134) (fun _ _ => ⟨rfl, e161, (by decide : 0 + 0 ≤ _), (by decide : 0 + 0 ≤ _)⟩)
  dsimp only [Pt.U, Pt.locs, Pt.cells, Pt.slots] at X163 l163 y163 z163 st163 hQ163
  subst l163 y163 z163
  obtain ⟨rfl, N163q, e163⟩ := hQ163
  have N163 := Fr.app N161 N163q
  obtain ⟨fs, hr, hrun, hended, hW, hsame⟩ := X163.leave (v := some (.int (own_fin (((own_mb (own_mb (0 : Int32) (own_blk x0 x1 x2 x3)) (own_blk x4 x5 x6 x7)) ^^^ (own_scr (own_t3 x8 x9 x10))) ^^^ (11 : Int32))))) (fun h => by rw [Bd.returns] at h; cases h)
  refine ⟨_, _, pre0 _ ?_, hrun, hended, _, _, rfl, ?_, ⟨_, rfl⟩, hW, hsame.mono (by decide) (by decide)⟩
  · refine own_iconst X0.here hx (0 : Int32) (hb hby d_prog_21_method_2_code_0) rfl ?_
    refine own_istoreN X0.here hx (hb hby d_prog_21_method_2_code_1) (l' := #[.val (.ref a1), .val (.int 0), .unset, .unset, .unset]) rfl ?_
    refine own_aloadN X0.here hx (hb hby d_prog_21_method_2_code_2) rfl rfl ?_
    refine X0.arraylength hx (by rw [e0]; exact Ar143.1) (State.isArrayOf_alike hZ.alike Ar143.2.1) (g := (mkF m 3 #[.val (.ref a1), .val (.int 0), .unset, .unset, .unset] [(.ref a1)])) rfl rfl (hb hby d_prog_21_method_2_code_3) _ ?_
    rw [len_of S143 M143]
    show Steps p.tables e below (s₁.setTop (mkF m 4 #[.val (.ref a1), .val (.int 0), .unset, .unset, .unset] [(.int 11)])) _
    refine own_aloadN X0.here hx (hb hby d_prog_21_method_2_code_4) rfl rfl ?_
    refine X0.arraylength hx (by rw [e0]; exact Ar144.1) (State.isArrayOf_alike hZ.alike Ar144.2.1) (g := (mkF m 5 #[.val (.ref a1), .val (.int 0), .unset, .unset, .unset] [(.ref a1), (.int 11)])) rfl rfl (hb hby d_prog_21_method_2_code_5) _ ?_
    rw [len_of S144 M144]
    show Steps p.tables e below (s₁.setTop (mkF m 6 #[.val (.ref a1), .val (.int 0), .unset, .unset, .unset] [(.int 11), (.int 11)])) _
    refine own_iconst X0.here hx (4 : Int32) (hb hby d_prog_21_method_2_code_6) rfl ?_
    refine own_irem X0.here hx (hb hby d_prog_21_method_2_code_7) (by decide) ?_
    show Steps p.tables e below (s₁.setTop (mkF m 8 #[.val (.ref a1), .val (.int 0), .unset, .unset, .unset] [(.int 3), (.int 11)])) _
    refine own_isub X0.here hx (hb hby d_prog_21_method_2_code_8) ?_
    show Steps p.tables e below (s₁.setTop (mkF m 9 #[.val (.ref a1), .val (.int 0), .unset, .unset, .unset] [(.int 8)])) _
    refine own_istoreN X0.here hx (hb hby d_prog_21_method_2_code_9) (l' := #[.val (.ref a1), .val (.int 0), .val (.int 8), .unset, .unset]) rfl ?_
    refine own_iconst X0.here hx (0 : Int32) (hb hby d_prog_21_method_2_code_10) rfl ?_
    refine own_istoreN X0.here hx (hb hby d_prog_21_method_2_code_11) (l' := #[.val (.ref a1), .val (.int 0), .val (.int 8), .val (.int 0), .unset]) rfl ?_
    refine own_iloadN X0.here hx (hb hby d_prog_21_method_2_code_12) rfl ?_
    refine own_iloadN X0.here hx (hb hby d_prog_21_method_2_code_13) rfl ?_
    refine own_icmpNo X0.here hx (hb hby d_prog_21_method_2_code_14) (tlt (by decide : (0 : Int32) < (8 : Int32))).2.1 ?_
    refine own_aloadN X0.here hx (hb hby d_prog_21_method_2_code_17) rfl rfl ?_
    refine own_iloadN X0.here hx (hb hby d_prog_21_method_2_code_18) rfl ?_
    refine X0.baloadBytes hx (j := (0 : Int32)) (v := (.int x0)) (by rw [e0]; exact Ar145.1) (State.isArrayOf_alike hZ.alike Ar145.2.1) Ar145.2.2 hin145 hat145 (g := (mkF m 19 #[.val (.ref a1), .val (.int 0), .val (.int 8), .val (.int 0), .unset] [(.int 0), (.ref a1)])) rfl rfl (hb hby d_prog_21_method_2_code_19) _ ?_
    show Steps p.tables e below (s₁.setTop (mkF m 20 #[.val (.ref a1), .val (.int 0), .val (.int 8), .val (.int 0), .unset] [(.int x0)])) _
    refine own_sipush X0.here hx (255 : Int32) (hb hby d_prog_21_method_2_code_20) rfl ?_
    refine own_iand X0.here hx (hb hby d_prog_21_method_2_code_23) ?_
    refine own_aloadN X0.here hx (hb hby d_prog_21_method_2_code_24) rfl rfl ?_
    refine own_iloadN X0.here hx (hb hby d_prog_21_method_2_code_25) rfl ?_
    refine own_iconst X0.here hx (1 : Int32) (hb hby d_prog_21_method_2_code_26) rfl ?_
    refine own_iadd X0.here hx (hb hby d_prog_21_method_2_code_27) ?_
    show Steps p.tables e below (s₁.setTop (mkF m 28 #[.val (.ref a1), .val (.int 0), .val (.int 8), .val (.int 0), .unset] [(.int 1), (.ref a1), (.int (x0 &&& (255 : Int32)))])) _
    refine X0.baloadBytes hx (j := (1 : Int32)) (v := (.int x1)) (by rw [e0]; exact Ar146.1) (State.isArrayOf_alike hZ.alike Ar146.2.1) Ar146.2.2 hin146 hat146 (g := (mkF m 28 #[.val (.ref a1), .val (.int 0), .val (.int 8), .val (.int 0), .unset] [(.int 1), (.ref a1), (.int (x0 &&& (255 : Int32)))])) rfl rfl (hb hby d_prog_21_method_2_code_28) _ ?_
    show Steps p.tables e below (s₁.setTop (mkF m 29 #[.val (.ref a1), .val (.int 0), .val (.int 8), .val (.int 0), .unset] [(.int x1), (.int (x0 &&& (255 : Int32)))])) _
    refine own_sipush X0.here hx (255 : Int32) (hb hby d_prog_21_method_2_code_29) rfl ?_
    refine own_iand X0.here hx (hb hby d_prog_21_method_2_code_32) ?_
    refine own_bipush X0.here hx (8 : Int32) (hb hby d_prog_21_method_2_code_33) rfl ?_
    refine own_ishl X0.here hx (hb hby d_prog_21_method_2_code_35) ?_
    refine own_ior X0.here hx (hb hby d_prog_21_method_2_code_36) ?_
    refine own_aloadN X0.here hx (hb hby d_prog_21_method_2_code_37) rfl rfl ?_
    refine own_iloadN X0.here hx (hb hby d_prog_21_method_2_code_38) rfl ?_
    refine own_iconst X0.here hx (2 : Int32) (hb hby d_prog_21_method_2_code_39) rfl ?_
    refine own_iadd X0.here hx (hb hby d_prog_21_method_2_code_40) ?_
    show Steps p.tables e below (s₁.setTop (mkF m 41 #[.val (.ref a1), .val (.int 0), .val (.int 8), .val (.int 0), .unset] [(.int 2), (.ref a1), (.int ((x0 &&& (255 : Int32)) ||| ((x1 &&& (255 : Int32)) <<< ((8 : Int32) &&& 31))))])) _
    refine X0.baloadBytes hx (j := (2 : Int32)) (v := (.int x2)) (by rw [e0]; exact Ar147.1) (State.isArrayOf_alike hZ.alike Ar147.2.1) Ar147.2.2 hin147 hat147 (g := (mkF m 41 #[.val (.ref a1), .val (.int 0), .val (.int 8), .val (.int 0), .unset] [(.int 2), (.ref a1), (.int ((x0 &&& (255 : Int32)) ||| ((x1 &&& (255 : Int32)) <<< ((8 : Int32) &&& 31))))])) rfl rfl (hb hby d_prog_21_method_2_code_41) _ ?_
    show Steps p.tables e below (s₁.setTop (mkF m 42 #[.val (.ref a1), .val (.int 0), .val (.int 8), .val (.int 0), .unset] [(.int x2), (.int ((x0 &&& (255 : Int32)) ||| ((x1 &&& (255 : Int32)) <<< ((8 : Int32) &&& 31))))])) _
    refine own_sipush X0.here hx (255 : Int32) (hb hby d_prog_21_method_2_code_42) rfl ?_
    refine own_iand X0.here hx (hb hby d_prog_21_method_2_code_45) ?_
    refine own_bipush X0.here hx (16 : Int32) (hb hby d_prog_21_method_2_code_46) rfl ?_
    refine own_ishl X0.here hx (hb hby d_prog_21_method_2_code_48) ?_
    refine own_ior X0.here hx (hb hby d_prog_21_method_2_code_49) ?_
    refine own_aloadN X0.here hx (hb hby d_prog_21_method_2_code_50) rfl rfl ?_
    refine own_iloadN X0.here hx (hb hby d_prog_21_method_2_code_51) rfl ?_
    refine own_iconst X0.here hx (3 : Int32) (hb hby d_prog_21_method_2_code_52) rfl ?_
    refine own_iadd X0.here hx (hb hby d_prog_21_method_2_code_53) ?_
    show Steps p.tables e below (s₁.setTop (mkF m 54 #[.val (.ref a1), .val (.int 0), .val (.int 8), .val (.int 0), .unset] [(.int 3), (.ref a1), (.int (((x0 &&& (255 : Int32)) ||| ((x1 &&& (255 : Int32)) <<< ((8 : Int32) &&& 31))) ||| ((x2 &&& (255 : Int32)) <<< ((16 : Int32) &&& 31))))])) _
    refine X0.baloadBytes hx (j := (3 : Int32)) (v := (.int x3)) (by rw [e0]; exact Ar148.1) (State.isArrayOf_alike hZ.alike Ar148.2.1) Ar148.2.2 hin148 hat148 (g := (mkF m 54 #[.val (.ref a1), .val (.int 0), .val (.int 8), .val (.int 0), .unset] [(.int 3), (.ref a1), (.int (((x0 &&& (255 : Int32)) ||| ((x1 &&& (255 : Int32)) <<< ((8 : Int32) &&& 31))) ||| ((x2 &&& (255 : Int32)) <<< ((16 : Int32) &&& 31))))])) rfl rfl (hb hby d_prog_21_method_2_code_54) _ ?_
    show Steps p.tables e below (s₁.setTop (mkF m 55 #[.val (.ref a1), .val (.int 0), .val (.int 8), .val (.int 0), .unset] [(.int x3), (.int (((x0 &&& (255 : Int32)) ||| ((x1 &&& (255 : Int32)) <<< ((8 : Int32) &&& 31))) ||| ((x2 &&& (255 : Int32)) <<< ((16 : Int32) &&& 31))))])) _
    refine own_bipush X0.here hx (24 : Int32) (hb hby d_prog_21_method_2_code_55) rfl ?_
    refine own_ishl X0.here hx (hb hby d_prog_21_method_2_code_57) ?_
    refine own_ior X0.here hx (hb hby d_prog_21_method_2_code_58) ?_
    show Steps p.tables e below (s₁.setTop (mkF m 59 #[.val (.ref a1), .val (.int 0), .val (.int 8), .val (.int 0), .unset] [(.int (own_blk x0 x1 x2 x3))])) _
    refine own_istore X0.here hx (hb hby d_prog_21_method_2_code_59) (l' := #[.val (.ref a1), .val (.int 0), .val (.int 8), .val (.int 0), .val (.int (own_blk x0 x1 x2 x3))]) rfl ?_
    refine own_iloadN X0.here hx (hb hby d_prog_21_method_2_code_61) rfl ?_
    refine own_iload X0.here hx (hb hby d_prog_21_method_2_code_62) rfl ?_
    refine st149 _ ?_
    show Steps p.tables e below (T149.setTop (mkF m 67 #[.val (.ref a1), .val (.int 0), .val (.int 8), .val (.int 0), .val (.int (own_blk x0 x1 x2 x3))] [(.int (own_scr (own_blk x0 x1 x2 x3))), (.int 0)])) _
    refine own_ixor X149.here hx (hb hby d_prog_21_method_2_code_67) ?_
    refine own_istoreN X149.here hx (hb hby d_prog_21_method_2_code_68) (l' := #[.val (.ref a1), .val (.int ((0 : Int32) ^^^ (own_scr (own_blk x0 x1 x2 x3)))), .val (.int 8), .val (.int 0), .val (.int (own_blk x0 x1 x2 x3))]) rfl ?_
    refine own_iloadN X149.here hx (hb hby d_prog_21_method_2_code_69) rfl ?_
    refine own_bipush X149.here hx (13 : Int32) (hb hby d_prog_21_method_2_code_70) rfl ?_
    refine st150 _ ?_
    show Steps p.tables e below (T150.setTop (mkF m 75 #[.val (.ref a1), .val (.int ((0 : Int32) ^^^ (own_scr (own_blk x0 x1 x2 x3)))), .val (.int 8), .val (.int 0), .val (.int (own_blk x0 x1 x2 x3))] [(.int (own_rotl ((0 : Int32) ^^^ (own_scr (own_blk x0 x1 x2 x3))) (13 : Int32)))])) _
    refine own_iconst X150.here hx (5 : Int32) (hb hby d_prog_21_method_2_code_75) rfl ?_
    refine own_imul X150.here hx (hb hby d_prog_21_method_2_code_76) ?_
    refine X150.ldcInt hx hown (mvT hZ (hw _ (List.mem_of_getElem? (i := 29) rfl))) (g := (mkF m 77 #[.val (.ref a1), .val (.int ((0 : Int32) ^^^ (own_scr (own_blk x0 x1 x2 x3)))), .val (.int 8), .val (.int 0), .val (.int (own_blk x0 x1 x2 x3))] [(.int ((own_rotl ((0 : Int32) ^^^ (own_scr (own_blk x0 x1 x2 x3))) (13 : Int32)) * (5 : Int32)))])) rfl (hb hby d_prog_21_method_2_code_77) _ ?_
    show Steps p.tables e below (T150.setTop (mkF m 79 #[.val (.ref a1), .val (.int ((0 : Int32) ^^^ (own_scr (own_blk x0 x1 x2 x3)))), .val (.int 8), .val (.int 0), .val (.int (own_blk x0 x1 x2 x3))] [(.int (-430675100)), (.int ((own_rotl ((0 : Int32) ^^^ (own_scr (own_blk x0 x1 x2 x3))) (13 : Int32)) * (5 : Int32)))])) _
    refine own_iadd X150.here hx (hb hby d_prog_21_method_2_code_79) ?_
    show Steps p.tables e below (T150.setTop (mkF m 80 #[.val (.ref a1), .val (.int ((0 : Int32) ^^^ (own_scr (own_blk x0 x1 x2 x3)))), .val (.int 8), .val (.int 0), .val (.int (own_blk x0 x1 x2 x3))] [(.int (own_mb (0 : Int32) (own_blk x0 x1 x2 x3)))])) _
    refine own_istoreN X150.here hx (hb hby d_prog_21_method_2_code_80) (l' := #[.val (.ref a1), .val (.int (own_mb (0 : Int32) (own_blk x0 x1 x2 x3))), .val (.int 8), .val (.int 0), .val (.int (own_blk x0 x1 x2 x3))]) rfl ?_
    refine own_iinc X150.here hx (4 : Int32) (hb hby d_prog_21_method_2_code_81) rfl rfl (l' := #[.val (.ref a1), .val (.int (own_mb (0 : Int32) (own_blk x0 x1 x2 x3))), .val (.int 8), .val (.int 4), .val (.int (own_blk x0 x1 x2 x3))]) rfl ?_
    refine own_goto X150.here hx 84 12 rfl (hb hby d_prog_21_method_2_code_84) (by decide) (by decide) ?_
    refine own_iloadN X150.here hx (hb hby d_prog_21_method_2_code_12) rfl ?_
    refine own_iloadN X150.here hx (hb hby d_prog_21_method_2_code_13) rfl ?_
    refine own_icmpNo X150.here hx (hb hby d_prog_21_method_2_code_14) (tlt (by decide : (4 : Int32) < (8 : Int32))).2.1 ?_
    refine own_aloadN X150.here hx (hb hby d_prog_21_method_2_code_17) rfl rfl ?_
    refine own_iloadN X150.here hx (hb hby d_prog_21_method_2_code_18) rfl ?_
    refine X150.baloadBytes hx (j := (4 : Int32)) (v := (.int x4)) (by rw [e150]; exact Ar151.1) (State.isArrayOf_alike hZ.alike Ar151.2.1) Ar151.2.2 hin151 hat151 (g := (mkF m 19 #[.val (.ref a1), .val (.int (own_mb (0 : Int32) (own_blk x0 x1 x2 x3))), .val (.int 8), .val (.int 4), .val (.int (own_blk x0 x1 x2 x3))] [(.int 4), (.ref a1)])) rfl rfl (hb hby d_prog_21_method_2_code_19) _ ?_
    show Steps p.tables e below (T150.setTop (mkF m 20 #[.val (.ref a1), .val (.int (own_mb (0 : Int32) (own_blk x0 x1 x2 x3))), .val (.int 8), .val (.int 4), .val (.int (own_blk x0 x1 x2 x3))] [(.int x4)])) _
    refine own_sipush X150.here hx (255 : Int32) (hb hby d_prog_21_method_2_code_20) rfl ?_
    refine own_iand X150.here hx (hb hby d_prog_21_method_2_code_23) ?_
    refine own_aloadN X150.here hx (hb hby d_prog_21_method_2_code_24) rfl rfl ?_
    refine own_iloadN X150.here hx (hb hby d_prog_21_method_2_code_25) rfl ?_
    refine own_iconst X150.here hx (1 : Int32) (hb hby d_prog_21_method_2_code_26) rfl ?_
    refine own_iadd X150.here hx (hb hby d_prog_21_method_2_code_27) ?_
    show Steps p.tables e below (T150.setTop (mkF m 28 #[.val (.ref a1), .val (.int (own_mb (0 : Int32) (own_blk x0 x1 x2 x3))), .val (.int 8), .val (.int 4), .val (.int (own_blk x0 x1 x2 x3))] [(.int 5), (.ref a1), (.int (x4 &&& (255 : Int32)))])) _
    refine X150.baloadBytes hx (j := (5 : Int32)) (v := (.int x5)) (by rw [e150]; exact Ar152.1) (State.isArrayOf_alike hZ.alike Ar152.2.1) Ar152.2.2 hin152 hat152 (g := (mkF m 28 #[.val (.ref a1), .val (.int (own_mb (0 : Int32) (own_blk x0 x1 x2 x3))), .val (.int 8), .val (.int 4), .val (.int (own_blk x0 x1 x2 x3))] [(.int 5), (.ref a1), (.int (x4 &&& (255 : Int32)))])) rfl rfl (hb hby d_prog_21_method_2_code_28) _ ?_
    show Steps p.tables e below (T150.setTop (mkF m 29 #[.val (.ref a1), .val (.int (own_mb (0 : Int32) (own_blk x0 x1 x2 x3))), .val (.int 8), .val (.int 4), .val (.int (own_blk x0 x1 x2 x3))] [(.int x5), (.int (x4 &&& (255 : Int32)))])) _
    refine own_sipush X150.here hx (255 : Int32) (hb hby d_prog_21_method_2_code_29) rfl ?_
    refine own_iand X150.here hx (hb hby d_prog_21_method_2_code_32) ?_
    refine own_bipush X150.here hx (8 : Int32) (hb hby d_prog_21_method_2_code_33) rfl ?_
    refine own_ishl X150.here hx (hb hby d_prog_21_method_2_code_35) ?_
    refine own_ior X150.here hx (hb hby d_prog_21_method_2_code_36) ?_
    refine own_aloadN X150.here hx (hb hby d_prog_21_method_2_code_37) rfl rfl ?_
    refine own_iloadN X150.here hx (hb hby d_prog_21_method_2_code_38) rfl ?_
    refine own_iconst X150.here hx (2 : Int32) (hb hby d_prog_21_method_2_code_39) rfl ?_
    refine own_iadd X150.here hx (hb hby d_prog_21_method_2_code_40) ?_
    show Steps p.tables e below (T150.setTop (mkF m 41 #[.val (.ref a1), .val (.int (own_mb (0 : Int32) (own_blk x0 x1 x2 x3))), .val (.int 8), .val (.int 4), .val (.int (own_blk x0 x1 x2 x3))] [(.int 6), (.ref a1), (.int ((x4 &&& (255 : Int32)) ||| ((x5 &&& (255 : Int32)) <<< ((8 : Int32) &&& 31))))])) _
    refine X150.baloadBytes hx (j := (6 : Int32)) (v := (.int x6)) (by rw [e150]; exact Ar153.1) (State.isArrayOf_alike hZ.alike Ar153.2.1) Ar153.2.2 hin153 hat153 (g := (mkF m 41 #[.val (.ref a1), .val (.int (own_mb (0 : Int32) (own_blk x0 x1 x2 x3))), .val (.int 8), .val (.int 4), .val (.int (own_blk x0 x1 x2 x3))] [(.int 6), (.ref a1), (.int ((x4 &&& (255 : Int32)) ||| ((x5 &&& (255 : Int32)) <<< ((8 : Int32) &&& 31))))])) rfl rfl (hb hby d_prog_21_method_2_code_41) _ ?_
    show Steps p.tables e below (T150.setTop (mkF m 42 #[.val (.ref a1), .val (.int (own_mb (0 : Int32) (own_blk x0 x1 x2 x3))), .val (.int 8), .val (.int 4), .val (.int (own_blk x0 x1 x2 x3))] [(.int x6), (.int ((x4 &&& (255 : Int32)) ||| ((x5 &&& (255 : Int32)) <<< ((8 : Int32) &&& 31))))])) _
    refine own_sipush X150.here hx (255 : Int32) (hb hby d_prog_21_method_2_code_42) rfl ?_
    refine own_iand X150.here hx (hb hby d_prog_21_method_2_code_45) ?_
    refine own_bipush X150.here hx (16 : Int32) (hb hby d_prog_21_method_2_code_46) rfl ?_
    refine own_ishl X150.here hx (hb hby d_prog_21_method_2_code_48) ?_
    refine own_ior X150.here hx (hb hby d_prog_21_method_2_code_49) ?_
    refine own_aloadN X150.here hx (hb hby d_prog_21_method_2_code_50) rfl rfl ?_
    refine own_iloadN X150.here hx (hb hby d_prog_21_method_2_code_51) rfl ?_
    refine own_iconst X150.here hx (3 : Int32) (hb hby d_prog_21_method_2_code_52) rfl ?_
    refine own_iadd X150.here hx (hb hby d_prog_21_method_2_code_53) ?_
    show Steps p.tables e below (T150.setTop (mkF m 54 #[.val (.ref a1), .val (.int (own_mb (0 : Int32) (own_blk x0 x1 x2 x3))), .val (.int 8), .val (.int 4), .val (.int (own_blk x0 x1 x2 x3))] [(.int 7), (.ref a1), (.int (((x4 &&& (255 : Int32)) ||| ((x5 &&& (255 : Int32)) <<< ((8 : Int32) &&& 31))) ||| ((x6 &&& (255 : Int32)) <<< ((16 : Int32) &&& 31))))])) _
    refine X150.baloadBytes hx (j := (7 : Int32)) (v := (.int x7)) (by rw [e150]; exact Ar154.1) (State.isArrayOf_alike hZ.alike Ar154.2.1) Ar154.2.2 hin154 hat154 (g := (mkF m 54 #[.val (.ref a1), .val (.int (own_mb (0 : Int32) (own_blk x0 x1 x2 x3))), .val (.int 8), .val (.int 4), .val (.int (own_blk x0 x1 x2 x3))] [(.int 7), (.ref a1), (.int (((x4 &&& (255 : Int32)) ||| ((x5 &&& (255 : Int32)) <<< ((8 : Int32) &&& 31))) ||| ((x6 &&& (255 : Int32)) <<< ((16 : Int32) &&& 31))))])) rfl rfl (hb hby d_prog_21_method_2_code_54) _ ?_
    show Steps p.tables e below (T150.setTop (mkF m 55 #[.val (.ref a1), .val (.int (own_mb (0 : Int32) (own_blk x0 x1 x2 x3))), .val (.int 8), .val (.int 4), .val (.int (own_blk x0 x1 x2 x3))] [(.int x7), (.int (((x4 &&& (255 : Int32)) ||| ((x5 &&& (255 : Int32)) <<< ((8 : Int32) &&& 31))) ||| ((x6 &&& (255 : Int32)) <<< ((16 : Int32) &&& 31))))])) _
    refine own_bipush X150.here hx (24 : Int32) (hb hby d_prog_21_method_2_code_55) rfl ?_
    refine own_ishl X150.here hx (hb hby d_prog_21_method_2_code_57) ?_
    refine own_ior X150.here hx (hb hby d_prog_21_method_2_code_58) ?_
    show Steps p.tables e below (T150.setTop (mkF m 59 #[.val (.ref a1), .val (.int (own_mb (0 : Int32) (own_blk x0 x1 x2 x3))), .val (.int 8), .val (.int 4), .val (.int (own_blk x0 x1 x2 x3))] [(.int (own_blk x4 x5 x6 x7))])) _
    refine own_istore X150.here hx (hb hby d_prog_21_method_2_code_59) (l' := #[.val (.ref a1), .val (.int (own_mb (0 : Int32) (own_blk x0 x1 x2 x3))), .val (.int 8), .val (.int 4), .val (.int (own_blk x4 x5 x6 x7))]) rfl ?_
    refine own_iloadN X150.here hx (hb hby d_prog_21_method_2_code_61) rfl ?_
    refine own_iload X150.here hx (hb hby d_prog_21_method_2_code_62) rfl ?_
    refine st155 _ ?_
    show Steps p.tables e below (T155.setTop (mkF m 67 #[.val (.ref a1), .val (.int (own_mb (0 : Int32) (own_blk x0 x1 x2 x3))), .val (.int 8), .val (.int 4), .val (.int (own_blk x4 x5 x6 x7))] [(.int (own_scr (own_blk x4 x5 x6 x7))), (.int (own_mb (0 : Int32) (own_blk x0 x1 x2 x3)))])) _
    refine own_ixor X155.here hx (hb hby d_prog_21_method_2_code_67) ?_
    refine own_istoreN X155.here hx (hb hby d_prog_21_method_2_code_68) (l' := #[.val (.ref a1), .val (.int ((own_mb (0 : Int32) (own_blk x0 x1 x2 x3)) ^^^ (own_scr (own_blk x4 x5 x6 x7)))), .val (.int 8), .val (.int 4), .val (.int (own_blk x4 x5 x6 x7))]) rfl ?_
    refine own_iloadN X155.here hx (hb hby d_prog_21_method_2_code_69) rfl ?_
    refine own_bipush X155.here hx (13 : Int32) (hb hby d_prog_21_method_2_code_70) rfl ?_
    refine st156 _ ?_
    show Steps p.tables e below (T156.setTop (mkF m 75 #[.val (.ref a1), .val (.int ((own_mb (0 : Int32) (own_blk x0 x1 x2 x3)) ^^^ (own_scr (own_blk x4 x5 x6 x7)))), .val (.int 8), .val (.int 4), .val (.int (own_blk x4 x5 x6 x7))] [(.int (own_rotl ((own_mb (0 : Int32) (own_blk x0 x1 x2 x3)) ^^^ (own_scr (own_blk x4 x5 x6 x7))) (13 : Int32)))])) _
    refine own_iconst X156.here hx (5 : Int32) (hb hby d_prog_21_method_2_code_75) rfl ?_
    refine own_imul X156.here hx (hb hby d_prog_21_method_2_code_76) ?_
    refine X156.ldcInt hx hown (mvT hZ (hw _ (List.mem_of_getElem? (i := 29) rfl))) (g := (mkF m 77 #[.val (.ref a1), .val (.int ((own_mb (0 : Int32) (own_blk x0 x1 x2 x3)) ^^^ (own_scr (own_blk x4 x5 x6 x7)))), .val (.int 8), .val (.int 4), .val (.int (own_blk x4 x5 x6 x7))] [(.int ((own_rotl ((own_mb (0 : Int32) (own_blk x0 x1 x2 x3)) ^^^ (own_scr (own_blk x4 x5 x6 x7))) (13 : Int32)) * (5 : Int32)))])) rfl (hb hby d_prog_21_method_2_code_77) _ ?_
    show Steps p.tables e below (T156.setTop (mkF m 79 #[.val (.ref a1), .val (.int ((own_mb (0 : Int32) (own_blk x0 x1 x2 x3)) ^^^ (own_scr (own_blk x4 x5 x6 x7)))), .val (.int 8), .val (.int 4), .val (.int (own_blk x4 x5 x6 x7))] [(.int (-430675100)), (.int ((own_rotl ((own_mb (0 : Int32) (own_blk x0 x1 x2 x3)) ^^^ (own_scr (own_blk x4 x5 x6 x7))) (13 : Int32)) * (5 : Int32)))])) _
    refine own_iadd X156.here hx (hb hby d_prog_21_method_2_code_79) ?_
    show Steps p.tables e below (T156.setTop (mkF m 80 #[.val (.ref a1), .val (.int ((own_mb (0 : Int32) (own_blk x0 x1 x2 x3)) ^^^ (own_scr (own_blk x4 x5 x6 x7)))), .val (.int 8), .val (.int 4), .val (.int (own_blk x4 x5 x6 x7))] [(.int (own_mb (own_mb (0 : Int32) (own_blk x0 x1 x2 x3)) (own_blk x4 x5 x6 x7)))])) _
    refine own_istoreN X156.here hx (hb hby d_prog_21_method_2_code_80) (l' := #[.val (.ref a1), .val (.int (own_mb (own_mb (0 : Int32) (own_blk x0 x1 x2 x3)) (own_blk x4 x5 x6 x7))), .val (.int 8), .val (.int 4), .val (.int (own_blk x4 x5 x6 x7))]) rfl ?_
    refine own_iinc X156.here hx (4 : Int32) (hb hby d_prog_21_method_2_code_81) rfl rfl (l' := #[.val (.ref a1), .val (.int (own_mb (own_mb (0 : Int32) (own_blk x0 x1 x2 x3)) (own_blk x4 x5 x6 x7))), .val (.int 8), .val (.int 8), .val (.int (own_blk x4 x5 x6 x7))]) rfl ?_
    refine own_goto X156.here hx 84 12 rfl (hb hby d_prog_21_method_2_code_84) (by decide) (by decide) ?_
    refine own_iloadN X156.here hx (hb hby d_prog_21_method_2_code_12) rfl ?_
    refine own_iloadN X156.here hx (hb hby d_prog_21_method_2_code_13) rfl ?_
    refine own_icmpYes X156.here hx 14 87 rfl (hb hby d_prog_21_method_2_code_14) (flt (by decide : ¬ ((8 : Int32) < (8 : Int32)))).2.1 (by decide) (by decide) ?_
    refine own_iconst X156.here hx (0 : Int32) (hb hby d_prog_21_method_2_code_87) rfl ?_
    refine own_istoreN X156.here hx (hb hby d_prog_21_method_2_code_88) (l' := #[.val (.ref a1), .val (.int (own_mb (own_mb (0 : Int32) (own_blk x0 x1 x2 x3)) (own_blk x4 x5 x6 x7))), .val (.int 8), .val (.int 0), .val (.int (own_blk x4 x5 x6 x7))]) rfl ?_
    refine own_aloadN X156.here hx (hb hby d_prog_21_method_2_code_89) rfl rfl ?_
    refine X156.arraylength hx (by rw [e156]; exact Ar157.1) (State.isArrayOf_alike hZ.alike Ar157.2.1) (g := (mkF m 90 #[.val (.ref a1), .val (.int (own_mb (own_mb (0 : Int32) (own_blk x0 x1 x2 x3)) (own_blk x4 x5 x6 x7))), .val (.int 8), .val (.int 0), .val (.int (own_blk x4 x5 x6 x7))] [(.ref a1)])) rfl rfl (hb hby d_prog_21_method_2_code_90) _ ?_
    rw [len_of S157 M157]
    show Steps p.tables e below (T156.setTop (mkF m 91 #[.val (.ref a1), .val (.int (own_mb (own_mb (0 : Int32) (own_blk x0 x1 x2 x3)) (own_blk x4 x5 x6 x7))), .val (.int 8), .val (.int 0), .val (.int (own_blk x4 x5 x6 x7))] [(.int 11)])) _
    refine own_iconst X156.here hx (1 : Int32) (hb hby d_prog_21_method_2_code_91) rfl ?_
    refine own_isub X156.here hx (hb hby d_prog_21_method_2_code_92) ?_
    show Steps p.tables e below (T156.setTop (mkF m 93 #[.val (.ref a1), .val (.int (own_mb (own_mb (0 : Int32) (own_blk x0 x1 x2 x3)) (own_blk x4 x5 x6 x7))), .val (.int 8), .val (.int 0), .val (.int (own_blk x4 x5 x6 x7))] [(.int 10)])) _
    refine own_istore X156.here hx (hb hby d_prog_21_method_2_code_93) (l' := #[.val (.ref a1), .val (.int (own_mb (own_mb (0 : Int32) (own_blk x0 x1 x2 x3)) (own_blk x4 x5 x6 x7))), .val (.int 8), .val (.int 0), .val (.int 10)]) rfl ?_
    refine own_iload X156.here hx (hb hby d_prog_21_method_2_code_95) rfl ?_
    refine own_iloadN X156.here hx (hb hby d_prog_21_method_2_code_97) rfl ?_
    refine own_icmpNo X156.here hx (hb hby d_prog_21_method_2_code_98) (flt (by decide : ¬ ((10 : Int32) < (8 : Int32)))).1 ?_
    refine own_iloadN X156.here hx (hb hby d_prog_21_method_2_code_101) rfl ?_
    refine own_bipush X156.here hx (8 : Int32) (hb hby d_prog_21_method_2_code_102) rfl ?_
    refine own_ishl X156.here hx (hb hby d_prog_21_method_2_code_104) ?_
    show Steps p.tables e below (T156.setTop (mkF m 105 #[.val (.ref a1), .val (.int (own_mb (own_mb (0 : Int32) (own_blk x0 x1 x2 x3)) (own_blk x4 x5 x6 x7))), .val (.int 8), .val (.int 0), .val (.int 10)] [(.int 0)])) _
    refine own_aloadN X156.here hx (hb hby d_prog_21_method_2_code_105) rfl rfl ?_
    refine own_iload X156.here hx (hb hby d_prog_21_method_2_code_106) rfl ?_
    refine X156.baloadBytes hx (j := (10 : Int32)) (v := (.int x10)) (by rw [e156]; exact Ar158.1) (State.isArrayOf_alike hZ.alike Ar158.2.1) Ar158.2.2 hin158 hat158 (g := (mkF m 108 #[.val (.ref a1), .val (.int (own_mb (own_mb (0 : Int32) (own_blk x0 x1 x2 x3)) (own_blk x4 x5 x6 x7))), .val (.int 8), .val (.int 0), .val (.int 10)] [(.int 10), (.ref a1), (.int 0)])) rfl rfl (hb hby d_prog_21_method_2_code_108) _ ?_
    show Steps p.tables e below (T156.setTop (mkF m 109 #[.val (.ref a1), .val (.int (own_mb (own_mb (0 : Int32) (own_blk x0 x1 x2 x3)) (own_blk x4 x5 x6 x7))), .val (.int 8), .val (.int 0), .val (.int 10)] [(.int x10), (.int 0)])) _
    refine own_sipush X156.here hx (255 : Int32) (hb hby d_prog_21_method_2_code_109) rfl ?_
    refine own_iand X156.here hx (hb hby d_prog_21_method_2_code_112) ?_
    refine own_ior X156.here hx (hb hby d_prog_21_method_2_code_113) ?_
    show Steps p.tables e below (T156.setTop (mkF m 114 #[.val (.ref a1), .val (.int (own_mb (own_mb (0 : Int32) (own_blk x0 x1 x2 x3)) (own_blk x4 x5 x6 x7))), .val (.int 8), .val (.int 0), .val (.int 10)] [(.int (own_t1 x10))])) _
    refine own_istoreN X156.here hx (hb hby d_prog_21_method_2_code_114) (l' := #[.val (.ref a1), .val (.int (own_mb (own_mb (0 : Int32) (own_blk x0 x1 x2 x3)) (own_blk x4 x5 x6 x7))), .val (.int 8), .val (.int (own_t1 x10)), .val (.int 10)]) rfl ?_
    refine own_iinc X156.here hx (-1 : Int32) (hb hby d_prog_21_method_2_code_115) rfl rfl (l' := #[.val (.ref a1), .val (.int (own_mb (own_mb (0 : Int32) (own_blk x0 x1 x2 x3)) (own_blk x4 x5 x6 x7))), .val (.int 8), .val (.int (own_t1 x10)), .val (.int 9)]) rfl ?_
    refine own_goto X156.here hx 118 95 rfl (hb hby d_prog_21_method_2_code_118) (by decide) (by decide) ?_
    refine own_iload X156.here hx (hb hby d_prog_21_method_2_code_95) rfl ?_
    refine own_iloadN X156.here hx (hb hby d_prog_21_method_2_code_97) rfl ?_
    refine own_icmpNo X156.here hx (hb hby d_prog_21_method_2_code_98) (flt (by decide : ¬ ((9 : Int32) < (8 : Int32)))).1 ?_
    refine own_iloadN X156.here hx (hb hby d_prog_21_method_2_code_101) rfl ?_
    refine own_bipush X156.here hx (8 : Int32) (hb hby d_prog_21_method_2_code_102) rfl ?_
    refine own_ishl X156.here hx (hb hby d_prog_21_method_2_code_104) ?_
    refine own_aloadN X156.here hx (hb hby d_prog_21_method_2_code_105) rfl rfl ?_
    refine own_iload X156.here hx (hb hby d_prog_21_method_2_code_106) rfl ?_
    refine X156.baloadBytes hx (j := (9 : Int32)) (v := (.int x9)) (by rw [e156]; exact Ar159.1) (State.isArrayOf_alike hZ.alike Ar159.2.1) Ar159.2.2 hin159 hat159 (g := (mkF m 108 #[.val (.ref a1), .val (.int (own_mb (own_mb (0 : Int32) (own_blk x0 x1 x2 x3)) (own_blk x4 x5 x6 x7))), .val (.int 8), .val (.int (own_t1 x10)), .val (.int 9)] [(.int 9), (.ref a1), (.int ((own_t1 x10) <<< ((8 : Int32) &&& 31)))])) rfl rfl (hb hby d_prog_21_method_2_code_108) _ ?_
    show Steps p.tables e below (T156.setTop (mkF m 109 #[.val (.ref a1), .val (.int (own_mb (own_mb (0 : Int32) (own_blk x0 x1 x2 x3)) (own_blk x4 x5 x6 x7))), .val (.int 8), .val (.int (own_t1 x10)), .val (.int 9)] [(.int x9), (.int ((own_t1 x10) <<< ((8 : Int32) &&& 31)))])) _
    refine own_sipush X156.here hx (255 : Int32) (hb hby d_prog_21_method_2_code_109) rfl ?_
    refine own_iand X156.here hx (hb hby d_prog_21_method_2_code_112) ?_
    refine own_ior X156.here hx (hb hby d_prog_21_method_2_code_113) ?_
    show Steps p.tables e below (T156.setTop (mkF m 114 #[.val (.ref a1), .val (.int (own_mb (own_mb (0 : Int32) (own_blk x0 x1 x2 x3)) (own_blk x4 x5 x6 x7))), .val (.int 8), .val (.int (own_t1 x10)), .val (.int 9)] [(.int (own_t2 x9 x10))])) _
    refine own_istoreN X156.here hx (hb hby d_prog_21_method_2_code_114) (l' := #[.val (.ref a1), .val (.int (own_mb (own_mb (0 : Int32) (own_blk x0 x1 x2 x3)) (own_blk x4 x5 x6 x7))), .val (.int 8), .val (.int (own_t2 x9 x10)), .val (.int 9)]) rfl ?_
    refine own_iinc X156.here hx (-1 : Int32) (hb hby d_prog_21_method_2_code_115) rfl rfl (l' := #[.val (.ref a1), .val (.int (own_mb (own_mb (0 : Int32) (own_blk x0 x1 x2 x3)) (own_blk x4 x5 x6 x7))), .val (.int 8), .val (.int (own_t2 x9 x10)), .val (.int 8)]) rfl ?_
    refine own_goto X156.here hx 118 95 rfl (hb hby d_prog_21_method_2_code_118) (by decide) (by decide) ?_
    refine own_iload X156.here hx (hb hby d_prog_21_method_2_code_95) rfl ?_
    refine own_iloadN X156.here hx (hb hby d_prog_21_method_2_code_97) rfl ?_
    refine own_icmpNo X156.here hx (hb hby d_prog_21_method_2_code_98) (flt (by decide : ¬ ((8 : Int32) < (8 : Int32)))).1 ?_
    refine own_iloadN X156.here hx (hb hby d_prog_21_method_2_code_101) rfl ?_
    refine own_bipush X156.here hx (8 : Int32) (hb hby d_prog_21_method_2_code_102) rfl ?_
    refine own_ishl X156.here hx (hb hby d_prog_21_method_2_code_104) ?_
    refine own_aloadN X156.here hx (hb hby d_prog_21_method_2_code_105) rfl rfl ?_
    refine own_iload X156.here hx (hb hby d_prog_21_method_2_code_106) rfl ?_
    refine X156.baloadBytes hx (j := (8 : Int32)) (v := (.int x8)) (by rw [e156]; exact Ar160.1) (State.isArrayOf_alike hZ.alike Ar160.2.1) Ar160.2.2 hin160 hat160 (g := (mkF m 108 #[.val (.ref a1), .val (.int (own_mb (own_mb (0 : Int32) (own_blk x0 x1 x2 x3)) (own_blk x4 x5 x6 x7))), .val (.int 8), .val (.int (own_t2 x9 x10)), .val (.int 8)] [(.int 8), (.ref a1), (.int ((own_t2 x9 x10) <<< ((8 : Int32) &&& 31)))])) rfl rfl (hb hby d_prog_21_method_2_code_108) _ ?_
    show Steps p.tables e below (T156.setTop (mkF m 109 #[.val (.ref a1), .val (.int (own_mb (own_mb (0 : Int32) (own_blk x0 x1 x2 x3)) (own_blk x4 x5 x6 x7))), .val (.int 8), .val (.int (own_t2 x9 x10)), .val (.int 8)] [(.int x8), (.int ((own_t2 x9 x10) <<< ((8 : Int32) &&& 31)))])) _
    refine own_sipush X156.here hx (255 : Int32) (hb hby d_prog_21_method_2_code_109) rfl ?_
    refine own_iand X156.here hx (hb hby d_prog_21_method_2_code_112) ?_
    refine own_ior X156.here hx (hb hby d_prog_21_method_2_code_113) ?_
    show Steps p.tables e below (T156.setTop (mkF m 114 #[.val (.ref a1), .val (.int (own_mb (own_mb (0 : Int32) (own_blk x0 x1 x2 x3)) (own_blk x4 x5 x6 x7))), .val (.int 8), .val (.int (own_t2 x9 x10)), .val (.int 8)] [(.int (own_t3 x8 x9 x10))])) _
    refine own_istoreN X156.here hx (hb hby d_prog_21_method_2_code_114) (l' := #[.val (.ref a1), .val (.int (own_mb (own_mb (0 : Int32) (own_blk x0 x1 x2 x3)) (own_blk x4 x5 x6 x7))), .val (.int 8), .val (.int (own_t3 x8 x9 x10)), .val (.int 8)]) rfl ?_
    refine own_iinc X156.here hx (-1 : Int32) (hb hby d_prog_21_method_2_code_115) rfl rfl (l' := #[.val (.ref a1), .val (.int (own_mb (own_mb (0 : Int32) (own_blk x0 x1 x2 x3)) (own_blk x4 x5 x6 x7))), .val (.int 8), .val (.int (own_t3 x8 x9 x10)), .val (.int 7)]) rfl ?_
    refine own_goto X156.here hx 118 95 rfl (hb hby d_prog_21_method_2_code_118) (by decide) (by decide) ?_
    refine own_iload X156.here hx (hb hby d_prog_21_method_2_code_95) rfl ?_
    refine own_iloadN X156.here hx (hb hby d_prog_21_method_2_code_97) rfl ?_
    refine own_icmpYes X156.here hx 98 121 rfl (hb hby d_prog_21_method_2_code_98) (tlt (by decide : (7 : Int32) < (8 : Int32))).1 (by decide) (by decide) ?_
    refine own_iloadN X156.here hx (hb hby d_prog_21_method_2_code_121) rfl ?_
    refine own_iloadN X156.here hx (hb hby d_prog_21_method_2_code_122) rfl ?_
    refine st161 _ ?_
    show Steps p.tables e below (T161.setTop (mkF m 126 #[.val (.ref a1), .val (.int (own_mb (own_mb (0 : Int32) (own_blk x0 x1 x2 x3)) (own_blk x4 x5 x6 x7))), .val (.int 8), .val (.int (own_t3 x8 x9 x10)), .val (.int 7)] [(.int (own_scr (own_t3 x8 x9 x10))), (.int (own_mb (own_mb (0 : Int32) (own_blk x0 x1 x2 x3)) (own_blk x4 x5 x6 x7)))])) _
    refine own_ixor X161.here hx (hb hby d_prog_21_method_2_code_126) ?_
    refine own_istoreN X161.here hx (hb hby d_prog_21_method_2_code_127) (l' := #[.val (.ref a1), .val (.int ((own_mb (own_mb (0 : Int32) (own_blk x0 x1 x2 x3)) (own_blk x4 x5 x6 x7)) ^^^ (own_scr (own_t3 x8 x9 x10)))), .val (.int 8), .val (.int (own_t3 x8 x9 x10)), .val (.int 7)]) rfl ?_
    refine own_iloadN X161.here hx (hb hby d_prog_21_method_2_code_128) rfl ?_
    refine own_aloadN X161.here hx (hb hby d_prog_21_method_2_code_129) rfl rfl ?_
    refine X161.arraylength hx (by rw [e161]; exact Ar162.1) (State.isArrayOf_alike hZ.alike Ar162.2.1) (g := (mkF m 130 #[.val (.ref a1), .val (.int ((own_mb (own_mb (0 : Int32) (own_blk x0 x1 x2 x3)) (own_blk x4 x5 x6 x7)) ^^^ (own_scr (own_t3 x8 x9 x10)))), .val (.int 8), .val (.int (own_t3 x8 x9 x10)), .val (.int 7)] [(.ref a1), (.int ((own_mb (own_mb (0 : Int32) (own_blk x0 x1 x2 x3)) (own_blk x4 x5 x6 x7)) ^^^ (own_scr (own_t3 x8 x9 x10))))])) rfl rfl (hb hby d_prog_21_method_2_code_130) _ ?_
    rw [len_of S162 M162]
    show Steps p.tables e below (T161.setTop (mkF m 131 #[.val (.ref a1), .val (.int ((own_mb (own_mb (0 : Int32) (own_blk x0 x1 x2 x3)) (own_blk x4 x5 x6 x7)) ^^^ (own_scr (own_t3 x8 x9 x10)))), .val (.int 8), .val (.int (own_t3 x8 x9 x10)), .val (.int 7)] [(.int 11), (.int ((own_mb (own_mb (0 : Int32) (own_blk x0 x1 x2 x3)) (own_blk x4 x5 x6 x7)) ^^^ (own_scr (own_t3 x8 x9 x10))))])) _
    refine own_ixor X161.here hx (hb hby d_prog_21_method_2_code_131) ?_
    refine own_istoreN X161.here hx (hb hby d_prog_21_method_2_code_132) (l' := #[.val (.ref a1), .val (.int (((own_mb (own_mb (0 : Int32) (own_blk x0 x1 x2 x3)) (own_blk x4 x5 x6 x7)) ^^^ (own_scr (own_t3 x8 x9 x10))) ^^^ (11 : Int32))), .val (.int 8), .val (.int (own_t3 x8 x9 x10)), .val (.int 7)]) rfl ?_
    refine own_iloadN X161.here hx (hb hby d_prog_21_method_2_code_133) rfl ?_
    refine st163 _ ?_
    show Steps p.tables e below (T163.setTop (mkF m 137 #[.val (.ref a1), .val (.int (((own_mb (own_mb (0 : Int32) (own_blk x0 x1 x2 x3)) (own_blk x4 x5 x6 x7)) ^^^ (own_scr (own_t3 x8 x9 x10))) ^^^ (11 : Int32))), .val (.int 8), .val (.int (own_t3 x8 x9 x10)), .val (.int 7)] [(.int (own_fin (((own_mb (own_mb (0 : Int32) (own_blk x0 x1 x2 x3)) (own_blk x4 x5 x6 x7)) ^^^ (own_scr (own_t3 x8 x9 x10))) ^^^ (11 : Int32))))])) _
    exact retI X163 hx Bd.returns (hb hby d_prog_21_method_2_code_137) hr
  · show QH_11 Z a1 k1 x0 x1 x2 x3 x4 x5 x6 x7 x8 x9 x10 h0 n0 _ T163.heap _
    rw [e163]
    exact ⟨rfl, N163, rfl⟩
theorem ef_rm0 (m : MethodId) (x0 : Int64) (x1 : Int64) (x2 : Int32) : entryFrame m #[(.long x0), (.long x1), (.int x2)] maxLocals = mkF m 0 #[.val (.long x0), .second, .val (.long x1), .second, .val (.int x2), .unset, .unset, .unset, .unset, .unset, .unset, .unset, .unset, .unset, .unset] [] := by first | (simp [entryFrame, mkF, argsToLocals, Value.category, maxLocals]; done) | rfl
def Q0 (Z : State) (q0 : Int64) (q1 : Int64) (p2 : Int32) (h0 : Heap) (n0 : Nat) (v : Option Value) (h : Heap) (L : List Loc) : Prop := v = some (.int (1 : Int32)) ∧ Fr n0 L
theorem pd_285bB29I : parseMethodDescriptor "([B)I" = some ⟨[(.array .byte)], some .int⟩ := by decide +kernel
set_option maxRecDepth 65536 in
set_option maxHeartbeats 40000000 in
theorem rm0 (l : Launch) (Z : State) (a0 : Array Value) (hw : ∀ d ∈ tables_1, d.before a0 Z = true) (ws : List Jvm.Cond) (q0 : Int64) (q1 : Int64) (p2 : Int32) (h0 : Heap) (n0 : Nat) (Z0 : n0 ≤ h0.size) :
    MetFree l x (head1 (Jvm.Cond.code x code maxLocals ret :: ws) room_1) (fun a U => a = #[(.long q0), (.long q1), (.int p2)] ∧ Z.Warmed39 U.vm ∧ U.heap = h0) (fun _ _ _ _ _ => True) (fun _ U o U' => ∃ v L, o = .returned v ∧ Q0 Z q0 q1 p2 h0 n0 v U'.heap L ∧ FrameEnd U o U' L 16 128) := by
  refine MetFree.of_bodySF (plainFor_of_name pn_com_example_forkline_forkline_bucketing_MurmurHash3Hash32PinLaw) hisR ?_
  intro p e s m args below meth c s₁ Bd hml0 hP hK
  obtain ⟨rfl, hZ, hh⟩ := hP
  have hx := Bd.exec
  have hby := Bd.bytes
  have hml : c.maxLocals = 15 := hml0
  have hown : s.vm.findClass "com/example/forkline/forkline/bucketing/MurmurHash3Hash32PinLaw" = some m.cls := findClass_of_methodNamed Bd.named
  have hnm := (name_of_methodNamed Bd.named Bd.method).1
  have X0 : Stand p l e room_1 s m #[(.long q0), (.long q1), (.int p2)] below meth c s₁ [] 0 0 := Stand.of_body Bd
  have e0 : s₁.heap = h0 := by rw [← hh, Bd.state]; rfl
  have N0 := Fr.nil n0
  have pre0 : ∀ tG, Steps p.tables e below (s₁.setTop (mkF m 0 #[.val (.long q0), .second, .val (.long q1), .second, .val (.int p2), .unset, .unset, .unset, .unset, .unset, .unset, .unset, .unset, .unset, .unset] [])) tG → Steps p.tables e below (s₁.setTop (entryFrame m #[(.long q0), (.long q1), (.int p2)] maxLocals)) tG := fun tG kG => castTop (ef_rm0 m q0 q1 p2) kG
  have G164 : ∀ tG, Steps p.tables e below (s₁.setTop (mkF m 10 #[.val (.long q0), .second, .val (.long q1), .second, .val (.int p2), .val (.int (own_rem (p2 &&& (2147483647 : Int32)) (12 : Int32))), .unset, .unset, .unset, .unset, .unset, .unset, .unset, .unset, .unset] [])) tG → Steps p.tables e below (s₁.setTop (mkF m 0 #[.val (.long q0), .second, .val (.long q1), .second, .val (.int p2), .unset, .unset, .unset, .unset, .unset, .unset, .unset, .unset, .unset, .unset] [])) tG := by
    intro tG kG
    refine own_iload X0.here hx (hb hby at_0) rfl ?_
    refine X0.ldcInt hx hown (mvT hZ (hw _ (List.mem_of_getElem? (i := 0) rfl))) (g := (mkF m 2 #[.val (.long q0), .second, .val (.long q1), .second, .val (.int p2), .unset, .unset, .unset, .unset, .unset, .unset, .unset, .unset, .unset, .unset] [(.int p2)])) rfl (hb hby at_2) _ ?_
    show Steps p.tables e below (s₁.setTop (mkF m 4 #[.val (.long q0), .second, .val (.long q1), .second, .val (.int p2), .unset, .unset, .unset, .unset, .unset, .unset, .unset, .unset, .unset, .unset] [(.int 2147483647), (.int p2)])) _
    refine own_iand X0.here hx (hb hby at_4) ?_
    refine own_bipush X0.here hx (12 : Int32) (hb hby at_5) rfl ?_
    refine own_irem X0.here hx (hb hby at_7) (by decide) ?_
    refine own_istore X0.here hx (hb hby at_8) (l' := #[.val (.long q0), .second, .val (.long q1), .second, .val (.int p2), .val (.int (own_rem (p2 &&& (2147483647 : Int32)) (12 : Int32))), .unset, .unset, .unset, .unset, .unset, .unset, .unset, .unset, .unset]) rfl ?_
    exact kG
  rcases own_n12 p2 with hn | hn | hn | hn | hn | hn | hn | hn | hn | hn | hn | hn
  · obtain ⟨T165, h165, k165, X165, e165, E165, A165, st165⟩ := newP X0 hx hZ (hw _ (List.mem_of_getElem? (i := 1) rfl)) e0 (g := (mkF m 12 #[.val (.long q0), .second, .val (.long q1), .second, .val (.int p2), .val (.int 0), .unset, .unset, .unset, .unset, .unset, .unset, .unset, .unset, .unset] [(.int 0)])) rfl (hb hby at_12) rfl (by decide) (cap := 0) (by decide) (by decide) (by decide) (by decide)
    obtain ⟨b165, g165⟩ : ∃ z, z = h0.size := ⟨_, rfl⟩
    rw [← g165] at A165 st165
    have E165' := E165
    have gg165 : n0 ≤ b165 := Nat.le_trans Z0 (Nat.le_of_eq g165.symm)
    have Z165 : n0 ≤ h165.size := Nat.le_trans Z0 E165.1
    have V165 : Arv Z h165 b165 k165 .byte (0 : Int32) [] (.int 0) := (Arv.new A165 (by decide)).pad (pad_rep [] (.int 0) 0)
    obtain ⟨_, _, ⟨T166, L166, k166, n166⟩, -, X166, ⟨Lc166, hQ166, l166, y166, z166⟩, st166⟩ := Jvm.LawKit.callS X165 hx (y := (⟨"com/example/forkline/forkline/bucketing/MurmurHash3", "hash32", "([B)I"⟩ : MethodName)) hown (mvT hZ (hw _ (List.mem_of_getElem? (i := 4) rfl))) (mvT hZ (hw _ (List.mem_of_getElem? (i := 5) rfl))) (mvT hZ (hw _ (List.mem_of_getElem? (i := 6) rfl))) (mvT hZ (hw _ (List.mem_of_getElem? (i := 7) rfl))) (by decide) (backOf (W := 0) (rmH_0 l Z a0 hw [] b165 k165  h165 n0 Z165 V165) hZ (hw _ (List.mem_of_getElem? (i := 7) rfl)) (hw _ (List.mem_of_getElem? (i := 6) rfl)) (by decide) (by decide)) (g := (mkF m 386 #[.val (.long q0), .second, .val (.long q1), .second, .val (.int p2), .val (.int 0), .val (.ref b165), .val (.int (q0.toInt32)), .val (.int (own_lu q0 (32 : Int32))), .val (.int (q1.toInt32)), .val (.int 0), .val (.int 0), .val (.int (own_fin (0 : Int32))), .val (.int (q0.toInt32)), .unset] [(.ref b165)])) rfl (by rw [hml]; rfl) (argsL := [(.ref b165)]) (rest := []) (lenOf pd_285bB29I rfl) rfl (by show 2 * 0 + _ ≤ _; exact Nat.le_of_eq rfl) (hb hby at_386) (fun _ _ => ⟨rfl, e165, (by decide : 1 + 0 ≤ _), (by decide : 0 + 0 ≤ _)⟩)
    dsimp only [Pt.U, Pt.locs, Pt.cells, Pt.slots] at X166 l166 y166 z166 st166 hQ166
    subst l166 y166 z166
    obtain ⟨rfl, N166q, e166⟩ := hQ166
    have N166 := Fr.app N0 N166q
    obtain ⟨fs, hr, hrun, hended, hW, hsame⟩ := X166.leave (v := some (.int 1)) (fun h => by rw [Bd.returns] at h; cases h)
    refine ⟨_, _, pre0 _ ?_, hrun, hended, _, _, rfl, ?_, ⟨_, rfl⟩, hW, hsame.mono (by decide) (by decide)⟩
    · refine G164 _ ?_
      rw [hn]
      refine own_iload X0.here hx (hb hby at_10) rfl ?_
      refine st165 _ ?_
      show Steps p.tables e below (T165.setTop (mkF m 14 #[.val (.long q0), .second, .val (.long q1), .second, .val (.int p2), .val (.int 0), .unset, .unset, .unset, .unset, .unset, .unset, .unset, .unset, .unset] [(.ref b165)])) _
      refine own_astore X165.here hx (hb hby at_14) rfl (l' := #[.val (.long q0), .second, .val (.long q1), .second, .val (.int p2), .val (.int 0), .val (.ref b165), .unset, .unset, .unset, .unset, .unset, .unset, .unset, .unset]) rfl ?_
      refine own_iload X165.here hx (hb hby at_16) rfl ?_
      refine own_ifYes X165.here hx 18 28 rfl (hb hby at_18) ((if0 _ _).trans (flt (by decide : ¬ ((0 : Int32) < (0 : Int32)))).2.2.2) (by decide) (by decide) ?_
      refine own_iload X165.here hx (hb hby at_28) rfl ?_
      refine own_iconst X165.here hx (1 : Int32) (hb hby at_30) rfl ?_
      refine own_icmpYes X165.here hx 31 44 rfl (hb hby at_31) (flt (by decide : ¬ ((1 : Int32) < (0 : Int32)))).2.2.2 (by decide) (by decide) ?_
      refine own_iload X165.here hx (hb hby at_44) rfl ?_
      refine own_iconst X165.here hx (2 : Int32) (hb hby at_46) rfl ?_
      refine own_icmpYes X165.here hx 47 60 rfl (hb hby at_47) (flt (by decide : ¬ ((2 : Int32) < (0 : Int32)))).2.2.2 (by decide) (by decide) ?_
      refine own_iload X165.here hx (hb hby at_60) rfl ?_
      refine own_iconst X165.here hx (3 : Int32) (hb hby at_62) rfl ?_
      refine own_icmpYes X165.here hx 63 76 rfl (hb hby at_63) (flt (by decide : ¬ ((3 : Int32) < (0 : Int32)))).2.2.2 (by decide) (by decide) ?_
      refine own_iload X165.here hx (hb hby at_76) rfl ?_
      refine own_iconst X165.here hx (4 : Int32) (hb hby at_78) rfl ?_
      refine own_icmpYes X165.here hx 79 92 rfl (hb hby at_79) (flt (by decide : ¬ ((4 : Int32) < (0 : Int32)))).2.2.2 (by decide) (by decide) ?_
      refine own_iload X165.here hx (hb hby at_92) rfl ?_
      refine own_iconst X165.here hx (5 : Int32) (hb hby at_94) rfl ?_
      refine own_icmpYes X165.here hx 95 108 rfl (hb hby at_95) (flt (by decide : ¬ ((5 : Int32) < (0 : Int32)))).2.2.2 (by decide) (by decide) ?_
      refine own_iload X165.here hx (hb hby at_108) rfl ?_
      refine own_bipush X165.here hx (6 : Int32) (hb hby at_110) rfl ?_
      refine own_icmpYes X165.here hx 112 126 rfl (hb hby at_112) (flt (by decide : ¬ ((6 : Int32) < (0 : Int32)))).2.2.2 (by decide) (by decide) ?_
      refine own_iload X165.here hx (hb hby at_126) rfl ?_
      refine own_bipush X165.here hx (7 : Int32) (hb hby at_128) rfl ?_
      refine own_icmpYes X165.here hx 130 144 rfl (hb hby at_130) (flt (by decide : ¬ ((7 : Int32) < (0 : Int32)))).2.2.2 (by decide) (by decide) ?_
      refine own_iload X165.here hx (hb hby at_144) rfl ?_
      refine own_bipush X165.here hx (8 : Int32) (hb hby at_146) rfl ?_
      refine own_icmpYes X165.here hx 148 159 rfl (hb hby at_148) (flt (by decide : ¬ ((8 : Int32) < (0 : Int32)))).2.2.2 (by decide) (by decide) ?_
      refine own_iload X165.here hx (hb hby at_159) rfl ?_
      refine own_bipush X165.here hx (9 : Int32) (hb hby at_161) rfl ?_
      refine own_icmpYes X165.here hx 163 177 rfl (hb hby at_163) (flt (by decide : ¬ ((9 : Int32) < (0 : Int32)))).2.2.2 (by decide) (by decide) ?_
      refine own_iload X165.here hx (hb hby at_177) rfl ?_
      refine own_bipush X165.here hx (10 : Int32) (hb hby at_179) rfl ?_
      refine own_icmpYes X165.here hx 181 195 rfl (hb hby at_181) (flt (by decide : ¬ ((10 : Int32) < (0 : Int32)))).2.2.2 (by decide) (by decide) ?_
      refine own_lloadN X165.here hx (hb hby at_195) rfl ?_
      refine own_l2i X165.here hx (hb hby at_196) ?_
      refine own_istore X165.here hx (hb hby at_197) (l' := #[.val (.long q0), .second, .val (.long q1), .second, .val (.int p2), .val (.int 0), .val (.ref b165), .val (.int (q0.toInt32)), .unset, .unset, .unset, .unset, .unset, .unset, .unset]) rfl ?_
      refine own_lloadN X165.here hx (hb hby at_199) rfl ?_
      refine own_bipush X165.here hx (32 : Int32) (hb hby at_200) rfl ?_
      refine own_lushr X165.here hx (hb hby at_202) ?_
      refine own_l2i X165.here hx (hb hby at_203) ?_
      show Steps p.tables e below (T165.setTop (mkF m 204 #[.val (.long q0), .second, .val (.long q1), .second, .val (.int p2), .val (.int 0), .val (.ref b165), .val (.int (q0.toInt32)), .unset, .unset, .unset, .unset, .unset, .unset, .unset] [(.int (own_lu q0 (32 : Int32)))])) _
      refine own_istore X165.here hx (hb hby at_204) (l' := #[.val (.long q0), .second, .val (.long q1), .second, .val (.int p2), .val (.int 0), .val (.ref b165), .val (.int (q0.toInt32)), .val (.int (own_lu q0 (32 : Int32))), .unset, .unset, .unset, .unset, .unset, .unset]) rfl ?_
      refine own_lloadN X165.here hx (hb hby at_206) rfl ?_
      refine own_l2i X165.here hx (hb hby at_207) ?_
      refine own_istore X165.here hx (hb hby at_208) (l' := #[.val (.long q0), .second, .val (.long q1), .second, .val (.int p2), .val (.int 0), .val (.ref b165), .val (.int (q0.toInt32)), .val (.int (own_lu q0 (32 : Int32))), .val (.int (q1.toInt32)), .unset, .unset, .unset, .unset, .unset]) rfl ?_
      refine own_iload X165.here hx (hb hby at_210) rfl ?_
      refine own_iconst X165.here hx (4 : Int32) (hb hby at_212) rfl ?_
      refine own_idiv X165.here hx (hb hby at_213) (by decide) ?_
      show Steps p.tables e below (T165.setTop (mkF m 214 #[.val (.long q0), .second, .val (.long q1), .second, .val (.int p2), .val (.int 0), .val (.ref b165), .val (.int (q0.toInt32)), .val (.int (own_lu q0 (32 : Int32))), .val (.int (q1.toInt32)), .unset, .unset, .unset, .unset, .unset] [(.int 0)])) _
      refine own_istore X165.here hx (hb hby at_214) (l' := #[.val (.long q0), .second, .val (.long q1), .second, .val (.int p2), .val (.int 0), .val (.ref b165), .val (.int (q0.toInt32)), .val (.int (own_lu q0 (32 : Int32))), .val (.int (q1.toInt32)), .val (.int 0), .unset, .unset, .unset, .unset]) rfl ?_
      refine own_iload X165.here hx (hb hby at_216) rfl ?_
      refine own_iconst X165.here hx (4 : Int32) (hb hby at_218) rfl ?_
      refine own_irem X165.here hx (hb hby at_219) (by decide) ?_
      show Steps p.tables e below (T165.setTop (mkF m 220 #[.val (.long q0), .second, .val (.long q1), .second, .val (.int p2), .val (.int 0), .val (.ref b165), .val (.int (q0.toInt32)), .val (.int (own_lu q0 (32 : Int32))), .val (.int (q1.toInt32)), .val (.int 0), .unset, .unset, .unset, .unset] [(.int 0)])) _
      refine own_istore X165.here hx (hb hby at_220) (l' := #[.val (.long q0), .second, .val (.long q1), .second, .val (.int p2), .val (.int 0), .val (.ref b165), .val (.int (q0.toInt32)), .val (.int (own_lu q0 (32 : Int32))), .val (.int (q1.toInt32)), .val (.int 0), .val (.int 0), .unset, .unset, .unset]) rfl ?_
      refine own_iconst X165.here hx (0 : Int32) (hb hby at_222) rfl ?_
      refine own_istore X165.here hx (hb hby at_223) (l' := #[.val (.long q0), .second, .val (.long q1), .second, .val (.int p2), .val (.int 0), .val (.ref b165), .val (.int (q0.toInt32)), .val (.int (own_lu q0 (32 : Int32))), .val (.int (q1.toInt32)), .val (.int 0), .val (.int 0), .val (.int 0), .unset, .unset]) rfl ?_
      refine own_iload X165.here hx (hb hby at_225) rfl ?_
      refine own_iconst X165.here hx (1 : Int32) (hb hby at_227) rfl ?_
      refine own_icmpYes X165.here hx 228 240 rfl (hb hby at_228) (tlt (by decide : (0 : Int32) < (1 : Int32))).1 (by decide) (by decide) ?_
      refine own_iload X165.here hx (hb hby at_240) rfl ?_
      refine own_iconst X165.here hx (2 : Int32) (hb hby at_242) rfl ?_
      refine own_icmpYes X165.here hx 243 255 rfl (hb hby at_243) (tlt (by decide : (0 : Int32) < (2 : Int32))).1 (by decide) (by decide) ?_
      refine own_iload X165.here hx (hb hby at_255) rfl ?_
      refine own_ifNo X165.here hx (hb hby at_257) ((if0 _ _).trans (teq (by decide : (0 : Int32) = (0 : Int32))).2) ?_
      refine own_iload X165.here hx (hb hby at_260) rfl ?_
      refine own_goto X165.here hx 262 278 rfl (hb hby at_262) (by decide) (by decide) ?_
      refine own_istore X165.here hx (hb hby at_278) (l' := #[.val (.long q0), .second, .val (.long q1), .second, .val (.int p2), .val (.int 0), .val (.ref b165), .val (.int (q0.toInt32)), .val (.int (own_lu q0 (32 : Int32))), .val (.int (q1.toInt32)), .val (.int 0), .val (.int 0), .val (.int 0), .val (.int (q0.toInt32)), .unset]) rfl ?_
      refine own_iload X165.here hx (hb hby at_280) rfl ?_
      refine own_ifYes X165.here hx 282 333 rfl (hb hby at_282) ((if0 _ _).trans (flt (by decide : ¬ ((0 : Int32) < (0 : Int32)))).2.2.2) (by decide) (by decide) ?_
      refine own_iload X165.here hx (hb hby at_333) rfl ?_
      refine own_iload X165.here hx (hb hby at_335) rfl ?_
      refine own_ixor X165.here hx (hb hby at_337) ?_
      show Steps p.tables e below (T165.setTop (mkF m 338 #[.val (.long q0), .second, .val (.long q1), .second, .val (.int p2), .val (.int 0), .val (.ref b165), .val (.int (q0.toInt32)), .val (.int (own_lu q0 (32 : Int32))), .val (.int (q1.toInt32)), .val (.int 0), .val (.int 0), .val (.int 0), .val (.int (q0.toInt32)), .unset] [(.int 0)])) _
      refine own_istore X165.here hx (hb hby at_338) (l' := #[.val (.long q0), .second, .val (.long q1), .second, .val (.int p2), .val (.int 0), .val (.ref b165), .val (.int (q0.toInt32)), .val (.int (own_lu q0 (32 : Int32))), .val (.int (q1.toInt32)), .val (.int 0), .val (.int 0), .val (.int 0), .val (.int (q0.toInt32)), .unset]) rfl ?_
      refine own_iload X165.here hx (hb hby at_340) rfl ?_
      refine own_iload X165.here hx (hb hby at_342) rfl ?_
      refine own_bipush X165.here hx (16 : Int32) (hb hby at_344) rfl ?_
      refine own_iushr X165.here hx (hb hby at_346) ?_
      refine own_ixor X165.here hx (hb hby at_347) ?_
      show Steps p.tables e below (T165.setTop (mkF m 348 #[.val (.long q0), .second, .val (.long q1), .second, .val (.int p2), .val (.int 0), .val (.ref b165), .val (.int (q0.toInt32)), .val (.int (own_lu q0 (32 : Int32))), .val (.int (q1.toInt32)), .val (.int 0), .val (.int 0), .val (.int 0), .val (.int (q0.toInt32)), .unset] [(.int (own_x16 (0 : Int32)))])) _
      refine own_istore X165.here hx (hb hby at_348) (l' := #[.val (.long q0), .second, .val (.long q1), .second, .val (.int p2), .val (.int 0), .val (.ref b165), .val (.int (q0.toInt32)), .val (.int (own_lu q0 (32 : Int32))), .val (.int (q1.toInt32)), .val (.int 0), .val (.int 0), .val (.int (own_x16 (0 : Int32))), .val (.int (q0.toInt32)), .unset]) rfl ?_
      refine own_iload X165.here hx (hb hby at_350) rfl ?_
      refine X165.ldcInt hx hown (mvT hZ (hw _ (List.mem_of_getElem? (i := 2) rfl))) (g := (mkF m 352 #[.val (.long q0), .second, .val (.long q1), .second, .val (.int p2), .val (.int 0), .val (.ref b165), .val (.int (q0.toInt32)), .val (.int (own_lu q0 (32 : Int32))), .val (.int (q1.toInt32)), .val (.int 0), .val (.int 0), .val (.int (own_x16 (0 : Int32))), .val (.int (q0.toInt32)), .unset] [(.int (own_x16 (0 : Int32)))])) rfl (hb hby at_352) _ ?_
      show Steps p.tables e below (T165.setTop (mkF m 354 #[.val (.long q0), .second, .val (.long q1), .second, .val (.int p2), .val (.int 0), .val (.ref b165), .val (.int (q0.toInt32)), .val (.int (own_lu q0 (32 : Int32))), .val (.int (q1.toInt32)), .val (.int 0), .val (.int 0), .val (.int (own_x16 (0 : Int32))), .val (.int (q0.toInt32)), .unset] [(.int (-2048144789)), (.int (own_x16 (0 : Int32)))])) _
      refine own_imul X165.here hx (hb hby at_354) ?_
      refine own_istore X165.here hx (hb hby at_355) (l' := #[.val (.long q0), .second, .val (.long q1), .second, .val (.int p2), .val (.int 0), .val (.ref b165), .val (.int (q0.toInt32)), .val (.int (own_lu q0 (32 : Int32))), .val (.int (q1.toInt32)), .val (.int 0), .val (.int 0), .val (.int ((own_x16 (0 : Int32)) * (-2048144789 : Int32))), .val (.int (q0.toInt32)), .unset]) rfl ?_
      refine own_iload X165.here hx (hb hby at_357) rfl ?_
      refine own_iload X165.here hx (hb hby at_359) rfl ?_
      refine own_bipush X165.here hx (13 : Int32) (hb hby at_361) rfl ?_
      refine own_iushr X165.here hx (hb hby at_363) ?_
      refine own_ixor X165.here hx (hb hby at_364) ?_
      show Steps p.tables e below (T165.setTop (mkF m 365 #[.val (.long q0), .second, .val (.long q1), .second, .val (.int p2), .val (.int 0), .val (.ref b165), .val (.int (q0.toInt32)), .val (.int (own_lu q0 (32 : Int32))), .val (.int (q1.toInt32)), .val (.int 0), .val (.int 0), .val (.int ((own_x16 (0 : Int32)) * (-2048144789 : Int32))), .val (.int (q0.toInt32)), .unset] [(.int (own_x13 ((own_x16 (0 : Int32)) * (-2048144789 : Int32))))])) _
      refine own_istore X165.here hx (hb hby at_365) (l' := #[.val (.long q0), .second, .val (.long q1), .second, .val (.int p2), .val (.int 0), .val (.ref b165), .val (.int (q0.toInt32)), .val (.int (own_lu q0 (32 : Int32))), .val (.int (q1.toInt32)), .val (.int 0), .val (.int 0), .val (.int (own_x13 ((own_x16 (0 : Int32)) * (-2048144789 : Int32)))), .val (.int (q0.toInt32)), .unset]) rfl ?_
      refine own_iload X165.here hx (hb hby at_367) rfl ?_
      refine X165.ldcInt hx hown (mvT hZ (hw _ (List.mem_of_getElem? (i := 3) rfl))) (g := (mkF m 369 #[.val (.long q0), .second, .val (.long q1), .second, .val (.int p2), .val (.int 0), .val (.ref b165), .val (.int (q0.toInt32)), .val (.int (own_lu q0 (32 : Int32))), .val (.int (q1.toInt32)), .val (.int 0), .val (.int 0), .val (.int (own_x13 ((own_x16 (0 : Int32)) * (-2048144789 : Int32)))), .val (.int (q0.toInt32)), .unset] [(.int (own_x13 ((own_x16 (0 : Int32)) * (-2048144789 : Int32))))])) rfl (hb hby at_369) _ ?_
      show Steps p.tables e below (T165.setTop (mkF m 371 #[.val (.long q0), .second, .val (.long q1), .second, .val (.int p2), .val (.int 0), .val (.ref b165), .val (.int (q0.toInt32)), .val (.int (own_lu q0 (32 : Int32))), .val (.int (q1.toInt32)), .val (.int 0), .val (.int 0), .val (.int (own_x13 ((own_x16 (0 : Int32)) * (-2048144789 : Int32)))), .val (.int (q0.toInt32)), .unset] [(.int (-1028477387)), (.int (own_x13 ((own_x16 (0 : Int32)) * (-2048144789 : Int32))))])) _
      refine own_imul X165.here hx (hb hby at_371) ?_
      refine own_istore X165.here hx (hb hby at_372) (l' := #[.val (.long q0), .second, .val (.long q1), .second, .val (.int p2), .val (.int 0), .val (.ref b165), .val (.int (q0.toInt32)), .val (.int (own_lu q0 (32 : Int32))), .val (.int (q1.toInt32)), .val (.int 0), .val (.int 0), .val (.int ((own_x13 ((own_x16 (0 : Int32)) * (-2048144789 : Int32))) * (-1028477387 : Int32))), .val (.int (q0.toInt32)), .unset]) rfl ?_
      refine own_iload X165.here hx (hb hby at_374) rfl ?_
      refine own_iload X165.here hx (hb hby at_376) rfl ?_
      refine own_bipush X165.here hx (16 : Int32) (hb hby at_378) rfl ?_
      refine own_iushr X165.here hx (hb hby at_380) ?_
      refine own_ixor X165.here hx (hb hby at_381) ?_
      show Steps p.tables e below (T165.setTop (mkF m 382 #[.val (.long q0), .second, .val (.long q1), .second, .val (.int p2), .val (.int 0), .val (.ref b165), .val (.int (q0.toInt32)), .val (.int (own_lu q0 (32 : Int32))), .val (.int (q1.toInt32)), .val (.int 0), .val (.int 0), .val (.int ((own_x13 ((own_x16 (0 : Int32)) * (-2048144789 : Int32))) * (-1028477387 : Int32))), .val (.int (q0.toInt32)), .unset] [(.int (own_fin (0 : Int32)))])) _
      refine own_istore X165.here hx (hb hby at_382) (l' := #[.val (.long q0), .second, .val (.long q1), .second, .val (.int p2), .val (.int 0), .val (.ref b165), .val (.int (q0.toInt32)), .val (.int (own_lu q0 (32 : Int32))), .val (.int (q1.toInt32)), .val (.int 0), .val (.int 0), .val (.int (own_fin (0 : Int32))), .val (.int (q0.toInt32)), .unset]) rfl ?_
      refine own_aload X165.here hx (hb hby at_384) rfl rfl ?_
      refine st166 _ ?_
      show Steps p.tables e below (T166.setTop (mkF m 389 #[.val (.long q0), .second, .val (.long q1), .second, .val (.int p2), .val (.int 0), .val (.ref b165), .val (.int (q0.toInt32)), .val (.int (own_lu q0 (32 : Int32))), .val (.int (q1.toInt32)), .val (.int 0), .val (.int 0), .val (.int (own_fin (0 : Int32))), .val (.int (q0.toInt32)), .unset] [(.int (own_fin (((0 : Int32) ^^^ (own_scr (0 : Int32))) ^^^ (0 : Int32))))])) _
      refine own_iload X166.here hx (hb hby at_389) rfl ?_
      refine own_icmpNo X166.here hx (hb hby at_391) (teq (by first | decide +kernel | simp only [own_blk0, own_blk1, own_t1e, own_t20, own_t21, own_t30, own_t31, own_scr0, Int32.xor_zero] : (own_fin (((0 : Int32) ^^^ (own_scr (0 : Int32))) ^^^ (0 : Int32))) = (own_fin (0 : Int32)))).2 ?_
      refine own_iconst X166.here hx (1 : Int32) (hb hby at_394) rfl ?_
      refine own_goto X166.here hx 395 399 rfl (hb hby at_395) (by decide) (by decide) ?_
      exact retN X166 hx (t := .boolean) Bd.returns (by simp) (hb hby at_399) hr
    · show Q0 Z q0 q1 p2 h0 n0 _ T166.heap _
      rw [e166]
      exact ⟨rfl, N166⟩
  · obtain ⟨T167, h167, k167, X167, e167, E167, A167, st167⟩ := newP X0 hx hZ (hw _ (List.mem_of_getElem? (i := 1) rfl)) e0 (g := (mkF m 12 #[.val (.long q0), .second, .val (.long q1), .second, .val (.int p2), .val (.int 1), .unset, .unset, .unset, .unset, .unset, .unset, .unset, .unset, .unset] [(.int 1)])) rfl (hb hby at_12) rfl (by decide) (cap := 1) (by decide) (by decide) (by decide) (by decide)
    obtain ⟨b167, g167⟩ : ∃ z, z = h0.size := ⟨_, rfl⟩
    rw [← g167] at A167 st167
    have E167' := E167
    have gg167 : n0 ≤ b167 := Nat.le_trans Z0 (Nat.le_of_eq g167.symm)
    have Z167 : n0 ≤ h167.size := Nat.le_trans Z0 E167.1
    have V167 : Arv Z h167 b167 k167 .byte (1 : Int32) [(.int 0)] (.int 0) := (Arv.new A167 (by decide)).pad (pad_rep [] (.int 0) 1)
    obtain ⟨cl168, Ar168, q168, S168, M168, H168, J168⟩ := id V167
    have hin168 : ¬ ((0 : Int32) < 0 ∨ cl168.slots.size ≤ ((0 : Int32)).toNatClampNeg) := inb_of S168 ⟨by decide, by decide⟩
    obtain ⟨T169, h169, X169, e169, W169, st169⟩ := stB X167 hx hZ e167 Ar168 (j := (0 : Int32)) hin168 (g := (mkF m 27 #[.val (.long q0), .second, .val (.long q1), .second, .val (.int p2), .val (.int 1), .val (.ref b167), .unset, .unset, .unset, .unset, .unset, .unset, .unset, .unset] [(.int ((q0.toInt32).toInt8.toInt32)), (.int 0), (.ref b167)])) rfl rfl (hb hby at_27)
    have V169 : Arv Z h169 b167 k167 .byte (1 : Int32) [(.int (own_by (q0.toInt32)))] (.int 0) := Arv.set Ar168 q168 S168 M168 H168 J168 (fits_nar_byte _) W169 0 rfl (Nat.le_of_ble_eq_true rfl)
    have N169 := Fr.snoc X169 N0 gg167
    have Z169 : n0 ≤ h169.size := Nat.le_trans Z167 (Keep.of_wr W169).1
    obtain ⟨_, _, ⟨T171, L171, k171, n171⟩, -, X171, ⟨Lc171, hQ171, l171, y171, z171⟩, st171⟩ := Jvm.LawKit.callS X169 hx (y := (⟨"com/example/forkline/forkline/bucketing/MurmurHash3", "hash32", "([B)I"⟩ : MethodName)) hown (mvT hZ (hw _ (List.mem_of_getElem? (i := 4) rfl))) (mvT hZ (hw _ (List.mem_of_getElem? (i := 5) rfl))) (mvT hZ (hw _ (List.mem_of_getElem? (i := 6) rfl))) (mvT hZ (hw _ (List.mem_of_getElem? (i := 7) rfl))) (by decide) (backOf (W := 0) (rmH_1 l Z a0 hw [] b167 k167 (own_by (q0.toInt32)) h169 n0 Z169 V169) hZ (hw _ (List.mem_of_getElem? (i := 7) rfl)) (hw _ (List.mem_of_getElem? (i := 6) rfl)) (by decide) (by decide)) (g := (mkF m 386 #[.val (.long q0), .second, .val (.long q1), .second, .val (.int p2), .val (.int 1), .val (.ref b167), .val (.int (q0.toInt32)), .val (.int (own_lu q0 (32 : Int32))), .val (.int (q1.toInt32)), .val (.int 0), .val (.int 1), .val (.int (own_fin (((0 : Int32) ^^^ (own_scr ((q0.toInt32) &&& (255 : Int32)))) ^^^ (1 : Int32)))), .val (.int (q0.toInt32)), .val (.int (own_scr ((q0.toInt32) &&& (255 : Int32))))] [(.ref b167)])) rfl (by rw [hml]; rfl) (argsL := [(.ref b167)]) (rest := []) (lenOf pd_285bB29I rfl) rfl (by show 2 * 0 + _ ≤ _; exact Nat.le_of_eq rfl) (hb hby at_386) (fun _ _ => ⟨rfl, e169, (by decide : 1 + 0 ≤ _), (by decide : 1 + 0 ≤ _)⟩)
    dsimp only [Pt.U, Pt.locs, Pt.cells, Pt.slots] at X171 l171 y171 z171 st171 hQ171
    subst l171 y171 z171
    obtain ⟨rfl, N171q, e171⟩ := hQ171
    have N171 := Fr.app N169 N171q
    obtain ⟨fs, hr, hrun, hended, hW, hsame⟩ := X171.leave (v := some (.int 1)) (fun h => by rw [Bd.returns] at h; cases h)
    refine ⟨_, _, pre0 _ ?_, hrun, hended, _, _, rfl, ?_, ⟨_, rfl⟩, hW, hsame.mono (by decide) (by decide)⟩
    · refine G164 _ ?_
      rw [hn]
      refine own_iload X0.here hx (hb hby at_10) rfl ?_
      refine st167 _ ?_
      show Steps p.tables e below (T167.setTop (mkF m 14 #[.val (.long q0), .second, .val (.long q1), .second, .val (.int p2), .val (.int 1), .unset, .unset, .unset, .unset, .unset, .unset, .unset, .unset, .unset] [(.ref b167)])) _
      refine own_astore X167.here hx (hb hby at_14) rfl (l' := #[.val (.long q0), .second, .val (.long q1), .second, .val (.int p2), .val (.int 1), .val (.ref b167), .unset, .unset, .unset, .unset, .unset, .unset, .unset, .unset]) rfl ?_
      refine own_iload X167.here hx (hb hby at_16) rfl ?_
      refine own_ifNo X167.here hx (hb hby at_18) ((if0 _ _).trans (tlt (by decide : (0 : Int32) < (1 : Int32))).2.2.2) ?_
      refine own_aload X167.here hx (hb hby at_21) rfl rfl ?_
      refine own_iconst X167.here hx (0 : Int32) (hb hby at_23) rfl ?_
      refine own_lloadN X167.here hx (hb hby at_24) rfl ?_
      refine own_l2i X167.here hx (hb hby at_25) ?_
      refine own_i2b X167.here hx (hb hby at_26) ?_
      refine st169 _ ?_
      show Steps p.tables e below (T169.setTop (mkF m 28 #[.val (.long q0), .second, .val (.long q1), .second, .val (.int p2), .val (.int 1), .val (.ref b167), .unset, .unset, .unset, .unset, .unset, .unset, .unset, .unset] [])) _
      refine own_iload X169.here hx (hb hby at_28) rfl ?_
      refine own_iconst X169.here hx (1 : Int32) (hb hby at_30) rfl ?_
      refine own_icmpYes X169.here hx 31 44 rfl (hb hby at_31) (flt (by decide : ¬ ((1 : Int32) < (1 : Int32)))).2.2.2 (by decide) (by decide) ?_
      refine own_iload X169.here hx (hb hby at_44) rfl ?_
      refine own_iconst X169.here hx (2 : Int32) (hb hby at_46) rfl ?_
      refine own_icmpYes X169.here hx 47 60 rfl (hb hby at_47) (flt (by decide : ¬ ((2 : Int32) < (1 : Int32)))).2.2.2 (by decide) (by decide) ?_
      refine own_iload X169.here hx (hb hby at_60) rfl ?_
      refine own_iconst X169.here hx (3 : Int32) (hb hby at_62) rfl ?_
      refine own_icmpYes X169.here hx 63 76 rfl (hb hby at_63) (flt (by decide : ¬ ((3 : Int32) < (1 : Int32)))).2.2.2 (by decide) (by decide) ?_
      refine own_iload X169.here hx (hb hby at_76) rfl ?_
      refine own_iconst X169.here hx (4 : Int32) (hb hby at_78) rfl ?_
      refine own_icmpYes X169.here hx 79 92 rfl (hb hby at_79) (flt (by decide : ¬ ((4 : Int32) < (1 : Int32)))).2.2.2 (by decide) (by decide) ?_
      refine own_iload X169.here hx (hb hby at_92) rfl ?_
      refine own_iconst X169.here hx (5 : Int32) (hb hby at_94) rfl ?_
      refine own_icmpYes X169.here hx 95 108 rfl (hb hby at_95) (flt (by decide : ¬ ((5 : Int32) < (1 : Int32)))).2.2.2 (by decide) (by decide) ?_
      refine own_iload X169.here hx (hb hby at_108) rfl ?_
      refine own_bipush X169.here hx (6 : Int32) (hb hby at_110) rfl ?_
      refine own_icmpYes X169.here hx 112 126 rfl (hb hby at_112) (flt (by decide : ¬ ((6 : Int32) < (1 : Int32)))).2.2.2 (by decide) (by decide) ?_
      refine own_iload X169.here hx (hb hby at_126) rfl ?_
      refine own_bipush X169.here hx (7 : Int32) (hb hby at_128) rfl ?_
      refine own_icmpYes X169.here hx 130 144 rfl (hb hby at_130) (flt (by decide : ¬ ((7 : Int32) < (1 : Int32)))).2.2.2 (by decide) (by decide) ?_
      refine own_iload X169.here hx (hb hby at_144) rfl ?_
      refine own_bipush X169.here hx (8 : Int32) (hb hby at_146) rfl ?_
      refine own_icmpYes X169.here hx 148 159 rfl (hb hby at_148) (flt (by decide : ¬ ((8 : Int32) < (1 : Int32)))).2.2.2 (by decide) (by decide) ?_
      refine own_iload X169.here hx (hb hby at_159) rfl ?_
      refine own_bipush X169.here hx (9 : Int32) (hb hby at_161) rfl ?_
      refine own_icmpYes X169.here hx 163 177 rfl (hb hby at_163) (flt (by decide : ¬ ((9 : Int32) < (1 : Int32)))).2.2.2 (by decide) (by decide) ?_
      refine own_iload X169.here hx (hb hby at_177) rfl ?_
      refine own_bipush X169.here hx (10 : Int32) (hb hby at_179) rfl ?_
      refine own_icmpYes X169.here hx 181 195 rfl (hb hby at_181) (flt (by decide : ¬ ((10 : Int32) < (1 : Int32)))).2.2.2 (by decide) (by decide) ?_
      refine own_lloadN X169.here hx (hb hby at_195) rfl ?_
      refine own_l2i X169.here hx (hb hby at_196) ?_
      refine own_istore X169.here hx (hb hby at_197) (l' := #[.val (.long q0), .second, .val (.long q1), .second, .val (.int p2), .val (.int 1), .val (.ref b167), .val (.int (q0.toInt32)), .unset, .unset, .unset, .unset, .unset, .unset, .unset]) rfl ?_
      refine own_lloadN X169.here hx (hb hby at_199) rfl ?_
      refine own_bipush X169.here hx (32 : Int32) (hb hby at_200) rfl ?_
      refine own_lushr X169.here hx (hb hby at_202) ?_
      refine own_l2i X169.here hx (hb hby at_203) ?_
      show Steps p.tables e below (T169.setTop (mkF m 204 #[.val (.long q0), .second, .val (.long q1), .second, .val (.int p2), .val (.int 1), .val (.ref b167), .val (.int (q0.toInt32)), .unset, .unset, .unset, .unset, .unset, .unset, .unset] [(.int (own_lu q0 (32 : Int32)))])) _
      refine own_istore X169.here hx (hb hby at_204) (l' := #[.val (.long q0), .second, .val (.long q1), .second, .val (.int p2), .val (.int 1), .val (.ref b167), .val (.int (q0.toInt32)), .val (.int (own_lu q0 (32 : Int32))), .unset, .unset, .unset, .unset, .unset, .unset]) rfl ?_
      refine own_lloadN X169.here hx (hb hby at_206) rfl ?_
      refine own_l2i X169.here hx (hb hby at_207) ?_
      refine own_istore X169.here hx (hb hby at_208) (l' := #[.val (.long q0), .second, .val (.long q1), .second, .val (.int p2), .val (.int 1), .val (.ref b167), .val (.int (q0.toInt32)), .val (.int (own_lu q0 (32 : Int32))), .val (.int (q1.toInt32)), .unset, .unset, .unset, .unset, .unset]) rfl ?_
      refine own_iload X169.here hx (hb hby at_210) rfl ?_
      refine own_iconst X169.here hx (4 : Int32) (hb hby at_212) rfl ?_
      refine own_idiv X169.here hx (hb hby at_213) (by decide) ?_
      show Steps p.tables e below (T169.setTop (mkF m 214 #[.val (.long q0), .second, .val (.long q1), .second, .val (.int p2), .val (.int 1), .val (.ref b167), .val (.int (q0.toInt32)), .val (.int (own_lu q0 (32 : Int32))), .val (.int (q1.toInt32)), .unset, .unset, .unset, .unset, .unset] [(.int 0)])) _
      refine own_istore X169.here hx (hb hby at_214) (l' := #[.val (.long q0), .second, .val (.long q1), .second, .val (.int p2), .val (.int 1), .val (.ref b167), .val (.int (q0.toInt32)), .val (.int (own_lu q0 (32 : Int32))), .val (.int (q1.toInt32)), .val (.int 0), .unset, .unset, .unset, .unset]) rfl ?_
      refine own_iload X169.here hx (hb hby at_216) rfl ?_
      refine own_iconst X169.here hx (4 : Int32) (hb hby at_218) rfl ?_
      refine own_irem X169.here hx (hb hby at_219) (by decide) ?_
      show Steps p.tables e below (T169.setTop (mkF m 220 #[.val (.long q0), .second, .val (.long q1), .second, .val (.int p2), .val (.int 1), .val (.ref b167), .val (.int (q0.toInt32)), .val (.int (own_lu q0 (32 : Int32))), .val (.int (q1.toInt32)), .val (.int 0), .unset, .unset, .unset, .unset] [(.int 1)])) _
      refine own_istore X169.here hx (hb hby at_220) (l' := #[.val (.long q0), .second, .val (.long q1), .second, .val (.int p2), .val (.int 1), .val (.ref b167), .val (.int (q0.toInt32)), .val (.int (own_lu q0 (32 : Int32))), .val (.int (q1.toInt32)), .val (.int 0), .val (.int 1), .unset, .unset, .unset]) rfl ?_
      refine own_iconst X169.here hx (0 : Int32) (hb hby at_222) rfl ?_
      refine own_istore X169.here hx (hb hby at_223) (l' := #[.val (.long q0), .second, .val (.long q1), .second, .val (.int p2), .val (.int 1), .val (.ref b167), .val (.int (q0.toInt32)), .val (.int (own_lu q0 (32 : Int32))), .val (.int (q1.toInt32)), .val (.int 0), .val (.int 1), .val (.int 0), .unset, .unset]) rfl ?_
      refine own_iload X169.here hx (hb hby at_225) rfl ?_
      refine own_iconst X169.here hx (1 : Int32) (hb hby at_227) rfl ?_
      refine own_icmpYes X169.here hx 228 240 rfl (hb hby at_228) (tlt (by decide : (0 : Int32) < (1 : Int32))).1 (by decide) (by decide) ?_
      refine own_iload X169.here hx (hb hby at_240) rfl ?_
      refine own_iconst X169.here hx (2 : Int32) (hb hby at_242) rfl ?_
      refine own_icmpYes X169.here hx 243 255 rfl (hb hby at_243) (tlt (by decide : (0 : Int32) < (2 : Int32))).1 (by decide) (by decide) ?_
      refine own_iload X169.here hx (hb hby at_255) rfl ?_
      refine own_ifNo X169.here hx (hb hby at_257) ((if0 _ _).trans (teq (by decide : (0 : Int32) = (0 : Int32))).2) ?_
      refine own_iload X169.here hx (hb hby at_260) rfl ?_
      refine own_goto X169.here hx 262 278 rfl (hb hby at_262) (by decide) (by decide) ?_
      refine own_istore X169.here hx (hb hby at_278) (l' := #[.val (.long q0), .second, .val (.long q1), .second, .val (.int p2), .val (.int 1), .val (.ref b167), .val (.int (q0.toInt32)), .val (.int (own_lu q0 (32 : Int32))), .val (.int (q1.toInt32)), .val (.int 0), .val (.int 1), .val (.int 0), .val (.int (q0.toInt32)), .unset]) rfl ?_
      refine own_iload X169.here hx (hb hby at_280) rfl ?_
      refine own_ifNo X169.here hx (hb hby at_282) ((if0 _ _).trans (tlt (by decide : (0 : Int32) < (1 : Int32))).2.2.2) ?_
      refine own_iload X169.here hx (hb hby at_285) rfl ?_
      refine own_iconst X169.here hx (1 : Int32) (hb hby at_287) rfl ?_
      refine own_bipush X169.here hx (8 : Int32) (hb hby at_288) rfl ?_
      refine own_iload X169.here hx (hb hby at_290) rfl ?_
      refine own_imul X169.here hx (hb hby at_292) ?_
      show Steps p.tables e below (T169.setTop (mkF m 293 #[.val (.long q0), .second, .val (.long q1), .second, .val (.int p2), .val (.int 1), .val (.ref b167), .val (.int (q0.toInt32)), .val (.int (own_lu q0 (32 : Int32))), .val (.int (q1.toInt32)), .val (.int 0), .val (.int 1), .val (.int 0), .val (.int (q0.toInt32)), .unset] [(.int 8), (.int 1), (.int (q0.toInt32))])) _
      refine own_ishl X169.here hx (hb hby at_293) ?_
      show Steps p.tables e below (T169.setTop (mkF m 294 #[.val (.long q0), .second, .val (.long q1), .second, .val (.int p2), .val (.int 1), .val (.ref b167), .val (.int (q0.toInt32)), .val (.int (own_lu q0 (32 : Int32))), .val (.int (q1.toInt32)), .val (.int 0), .val (.int 1), .val (.int 0), .val (.int (q0.toInt32)), .unset] [(.int 256), (.int (q0.toInt32))])) _
      refine own_iconst X169.here hx (1 : Int32) (hb hby at_294) rfl ?_
      refine own_isub X169.here hx (hb hby at_295) ?_
      show Steps p.tables e below (T169.setTop (mkF m 296 #[.val (.long q0), .second, .val (.long q1), .second, .val (.int p2), .val (.int 1), .val (.ref b167), .val (.int (q0.toInt32)), .val (.int (own_lu q0 (32 : Int32))), .val (.int (q1.toInt32)), .val (.int 0), .val (.int 1), .val (.int 0), .val (.int (q0.toInt32)), .unset] [(.int 255), (.int (q0.toInt32))])) _
      refine own_iand X169.here hx (hb hby at_296) ?_
      show Steps p.tables e below (T169.setTop (mkF m 297 #[.val (.long q0), .second, .val (.long q1), .second, .val (.int p2), .val (.int 1), .val (.ref b167), .val (.int (q0.toInt32)), .val (.int (own_lu q0 (32 : Int32))), .val (.int (q1.toInt32)), .val (.int 0), .val (.int 1), .val (.int 0), .val (.int (q0.toInt32)), .unset] [(.int ((q0.toInt32) &&& (255 : Int32)))])) _
      refine own_istore X169.here hx (hb hby at_297) (l' := #[.val (.long q0), .second, .val (.long q1), .second, .val (.int p2), .val (.int 1), .val (.ref b167), .val (.int (q0.toInt32)), .val (.int (own_lu q0 (32 : Int32))), .val (.int (q1.toInt32)), .val (.int 0), .val (.int 1), .val (.int 0), .val (.int (q0.toInt32)), .val (.int ((q0.toInt32) &&& (255 : Int32)))]) rfl ?_
      refine own_iload X169.here hx (hb hby at_299) rfl ?_
      refine X169.ldcInt hx hown (mvT hZ (hw _ (List.mem_of_getElem? (i := 26) rfl))) (g := (mkF m 301 #[.val (.long q0), .second, .val (.long q1), .second, .val (.int p2), .val (.int 1), .val (.ref b167), .val (.int (q0.toInt32)), .val (.int (own_lu q0 (32 : Int32))), .val (.int (q1.toInt32)), .val (.int 0), .val (.int 1), .val (.int 0), .val (.int (q0.toInt32)), .val (.int ((q0.toInt32) &&& (255 : Int32)))] [(.int ((q0.toInt32) &&& (255 : Int32)))])) rfl (hb hby at_301) _ ?_
      show Steps p.tables e below (T169.setTop (mkF m 303 #[.val (.long q0), .second, .val (.long q1), .second, .val (.int p2), .val (.int 1), .val (.ref b167), .val (.int (q0.toInt32)), .val (.int (own_lu q0 (32 : Int32))), .val (.int (q1.toInt32)), .val (.int 0), .val (.int 1), .val (.int 0), .val (.int (q0.toInt32)), .val (.int ((q0.toInt32) &&& (255 : Int32)))] [(.int (-862048943)), (.int ((q0.toInt32) &&& (255 : Int32)))])) _
      refine own_imul X169.here hx (hb hby at_303) ?_
      refine own_istore X169.here hx (hb hby at_304) (l' := #[.val (.long q0), .second, .val (.long q1), .second, .val (.int p2), .val (.int 1), .val (.ref b167), .val (.int (q0.toInt32)), .val (.int (own_lu q0 (32 : Int32))), .val (.int (q1.toInt32)), .val (.int 0), .val (.int 1), .val (.int 0), .val (.int (q0.toInt32)), .val (.int (((q0.toInt32) &&& (255 : Int32)) * (-862048943 : Int32)))]) rfl ?_
      refine own_iload X169.here hx (hb hby at_306) rfl ?_
      refine own_bipush X169.here hx (15 : Int32) (hb hby at_308) rfl ?_
      refine own_ishl X169.here hx (hb hby at_310) ?_
      refine own_iload X169.here hx (hb hby at_311) rfl ?_
      refine own_bipush X169.here hx (17 : Int32) (hb hby at_313) rfl ?_
      refine own_iushr X169.here hx (hb hby at_315) ?_
      refine own_ior X169.here hx (hb hby at_316) ?_
      show Steps p.tables e below (T169.setTop (mkF m 317 #[.val (.long q0), .second, .val (.long q1), .second, .val (.int p2), .val (.int 1), .val (.ref b167), .val (.int (q0.toInt32)), .val (.int (own_lu q0 (32 : Int32))), .val (.int (q1.toInt32)), .val (.int 0), .val (.int 1), .val (.int 0), .val (.int (q0.toInt32)), .val (.int (((q0.toInt32) &&& (255 : Int32)) * (-862048943 : Int32)))] [(.int (own_rotl (((q0.toInt32) &&& (255 : Int32)) * (-862048943 : Int32)) (15 : Int32)))])) _
      refine own_istore X169.here hx (hb hby at_317) (l' := #[.val (.long q0), .second, .val (.long q1), .second, .val (.int p2), .val (.int 1), .val (.ref b167), .val (.int (q0.toInt32)), .val (.int (own_lu q0 (32 : Int32))), .val (.int (q1.toInt32)), .val (.int 0), .val (.int 1), .val (.int 0), .val (.int (q0.toInt32)), .val (.int (own_rotl (((q0.toInt32) &&& (255 : Int32)) * (-862048943 : Int32)) (15 : Int32)))]) rfl ?_
      refine own_iload X169.here hx (hb hby at_319) rfl ?_
      refine X169.ldcInt hx hown (mvT hZ (hw _ (List.mem_of_getElem? (i := 27) rfl))) (g := (mkF m 321 #[.val (.long q0), .second, .val (.long q1), .second, .val (.int p2), .val (.int 1), .val (.ref b167), .val (.int (q0.toInt32)), .val (.int (own_lu q0 (32 : Int32))), .val (.int (q1.toInt32)), .val (.int 0), .val (.int 1), .val (.int 0), .val (.int (q0.toInt32)), .val (.int (own_rotl (((q0.toInt32) &&& (255 : Int32)) * (-862048943 : Int32)) (15 : Int32)))] [(.int (own_rotl (((q0.toInt32) &&& (255 : Int32)) * (-862048943 : Int32)) (15 : Int32)))])) rfl (hb hby at_321) _ ?_
      show Steps p.tables e below (T169.setTop (mkF m 323 #[.val (.long q0), .second, .val (.long q1), .second, .val (.int p2), .val (.int 1), .val (.ref b167), .val (.int (q0.toInt32)), .val (.int (own_lu q0 (32 : Int32))), .val (.int (q1.toInt32)), .val (.int 0), .val (.int 1), .val (.int 0), .val (.int (q0.toInt32)), .val (.int (own_rotl (((q0.toInt32) &&& (255 : Int32)) * (-862048943 : Int32)) (15 : Int32)))] [(.int 461845907), (.int (own_rotl (((q0.toInt32) &&& (255 : Int32)) * (-862048943 : Int32)) (15 : Int32)))])) _
      refine own_imul X169.here hx (hb hby at_323) ?_
      show Steps p.tables e below (T169.setTop (mkF m 324 #[.val (.long q0), .second, .val (.long q1), .second, .val (.int p2), .val (.int 1), .val (.ref b167), .val (.int (q0.toInt32)), .val (.int (own_lu q0 (32 : Int32))), .val (.int (q1.toInt32)), .val (.int 0), .val (.int 1), .val (.int 0), .val (.int (q0.toInt32)), .val (.int (own_rotl (((q0.toInt32) &&& (255 : Int32)) * (-862048943 : Int32)) (15 : Int32)))] [(.int (own_scr ((q0.toInt32) &&& (255 : Int32))))])) _
      refine own_istore X169.here hx (hb hby at_324) (l' := #[.val (.long q0), .second, .val (.long q1), .second, .val (.int p2), .val (.int 1), .val (.ref b167), .val (.int (q0.toInt32)), .val (.int (own_lu q0 (32 : Int32))), .val (.int (q1.toInt32)), .val (.int 0), .val (.int 1), .val (.int 0), .val (.int (q0.toInt32)), .val (.int (own_scr ((q0.toInt32) &&& (255 : Int32))))]) rfl ?_
      refine own_iload X169.here hx (hb hby at_326) rfl ?_
      refine own_iload X169.here hx (hb hby at_328) rfl ?_
      refine own_ixor X169.here hx (hb hby at_330) ?_
      refine own_istore X169.here hx (hb hby at_331) (l' := #[.val (.long q0), .second, .val (.long q1), .second, .val (.int p2), .val (.int 1), .val (.ref b167), .val (.int (q0.toInt32)), .val (.int (own_lu q0 (32 : Int32))), .val (.int (q1.toInt32)), .val (.int 0), .val (.int 1), .val (.int ((0 : Int32) ^^^ (own_scr ((q0.toInt32) &&& (255 : Int32))))), .val (.int (q0.toInt32)), .val (.int (own_scr ((q0.toInt32) &&& (255 : Int32))))]) rfl ?_
      refine own_iload X169.here hx (hb hby at_333) rfl ?_
      refine own_iload X169.here hx (hb hby at_335) rfl ?_
      refine own_ixor X169.here hx (hb hby at_337) ?_
      refine own_istore X169.here hx (hb hby at_338) (l' := #[.val (.long q0), .second, .val (.long q1), .second, .val (.int p2), .val (.int 1), .val (.ref b167), .val (.int (q0.toInt32)), .val (.int (own_lu q0 (32 : Int32))), .val (.int (q1.toInt32)), .val (.int 0), .val (.int 1), .val (.int (((0 : Int32) ^^^ (own_scr ((q0.toInt32) &&& (255 : Int32)))) ^^^ (1 : Int32))), .val (.int (q0.toInt32)), .val (.int (own_scr ((q0.toInt32) &&& (255 : Int32))))]) rfl ?_
      refine own_iload X169.here hx (hb hby at_340) rfl ?_
      refine own_iload X169.here hx (hb hby at_342) rfl ?_
      refine own_bipush X169.here hx (16 : Int32) (hb hby at_344) rfl ?_
      refine own_iushr X169.here hx (hb hby at_346) ?_
      refine own_ixor X169.here hx (hb hby at_347) ?_
      show Steps p.tables e below (T169.setTop (mkF m 348 #[.val (.long q0), .second, .val (.long q1), .second, .val (.int p2), .val (.int 1), .val (.ref b167), .val (.int (q0.toInt32)), .val (.int (own_lu q0 (32 : Int32))), .val (.int (q1.toInt32)), .val (.int 0), .val (.int 1), .val (.int (((0 : Int32) ^^^ (own_scr ((q0.toInt32) &&& (255 : Int32)))) ^^^ (1 : Int32))), .val (.int (q0.toInt32)), .val (.int (own_scr ((q0.toInt32) &&& (255 : Int32))))] [(.int (own_x16 (((0 : Int32) ^^^ (own_scr ((q0.toInt32) &&& (255 : Int32)))) ^^^ (1 : Int32))))])) _
      refine own_istore X169.here hx (hb hby at_348) (l' := #[.val (.long q0), .second, .val (.long q1), .second, .val (.int p2), .val (.int 1), .val (.ref b167), .val (.int (q0.toInt32)), .val (.int (own_lu q0 (32 : Int32))), .val (.int (q1.toInt32)), .val (.int 0), .val (.int 1), .val (.int (own_x16 (((0 : Int32) ^^^ (own_scr ((q0.toInt32) &&& (255 : Int32)))) ^^^ (1 : Int32)))), .val (.int (q0.toInt32)), .val (.int (own_scr ((q0.toInt32) &&& (255 : Int32))))]) rfl ?_
      refine own_iload X169.here hx (hb hby at_350) rfl ?_
      refine X169.ldcInt hx hown (mvT hZ (hw _ (List.mem_of_getElem? (i := 2) rfl))) (g := (mkF m 352 #[.val (.long q0), .second, .val (.long q1), .second, .val (.int p2), .val (.int 1), .val (.ref b167), .val (.int (q0.toInt32)), .val (.int (own_lu q0 (32 : Int32))), .val (.int (q1.toInt32)), .val (.int 0), .val (.int 1), .val (.int (own_x16 (((0 : Int32) ^^^ (own_scr ((q0.toInt32) &&& (255 : Int32)))) ^^^ (1 : Int32)))), .val (.int (q0.toInt32)), .val (.int (own_scr ((q0.toInt32) &&& (255 : Int32))))] [(.int (own_x16 (((0 : Int32) ^^^ (own_scr ((q0.toInt32) &&& (255 : Int32)))) ^^^ (1 : Int32))))])) rfl (hb hby at_352) _ ?_
      show Steps p.tables e below (T169.setTop (mkF m 354 #[.val (.long q0), .second, .val (.long q1), .second, .val (.int p2), .val (.int 1), .val (.ref b167), .val (.int (q0.toInt32)), .val (.int (own_lu q0 (32 : Int32))), .val (.int (q1.toInt32)), .val (.int 0), .val (.int 1), .val (.int (own_x16 (((0 : Int32) ^^^ (own_scr ((q0.toInt32) &&& (255 : Int32)))) ^^^ (1 : Int32)))), .val (.int (q0.toInt32)), .val (.int (own_scr ((q0.toInt32) &&& (255 : Int32))))] [(.int (-2048144789)), (.int (own_x16 (((0 : Int32) ^^^ (own_scr ((q0.toInt32) &&& (255 : Int32)))) ^^^ (1 : Int32))))])) _
      refine own_imul X169.here hx (hb hby at_354) ?_
      refine own_istore X169.here hx (hb hby at_355) (l' := #[.val (.long q0), .second, .val (.long q1), .second, .val (.int p2), .val (.int 1), .val (.ref b167), .val (.int (q0.toInt32)), .val (.int (own_lu q0 (32 : Int32))), .val (.int (q1.toInt32)), .val (.int 0), .val (.int 1), .val (.int ((own_x16 (((0 : Int32) ^^^ (own_scr ((q0.toInt32) &&& (255 : Int32)))) ^^^ (1 : Int32))) * (-2048144789 : Int32))), .val (.int (q0.toInt32)), .val (.int (own_scr ((q0.toInt32) &&& (255 : Int32))))]) rfl ?_
      refine own_iload X169.here hx (hb hby at_357) rfl ?_
      refine own_iload X169.here hx (hb hby at_359) rfl ?_
      refine own_bipush X169.here hx (13 : Int32) (hb hby at_361) rfl ?_
      refine own_iushr X169.here hx (hb hby at_363) ?_
      refine own_ixor X169.here hx (hb hby at_364) ?_
      show Steps p.tables e below (T169.setTop (mkF m 365 #[.val (.long q0), .second, .val (.long q1), .second, .val (.int p2), .val (.int 1), .val (.ref b167), .val (.int (q0.toInt32)), .val (.int (own_lu q0 (32 : Int32))), .val (.int (q1.toInt32)), .val (.int 0), .val (.int 1), .val (.int ((own_x16 (((0 : Int32) ^^^ (own_scr ((q0.toInt32) &&& (255 : Int32)))) ^^^ (1 : Int32))) * (-2048144789 : Int32))), .val (.int (q0.toInt32)), .val (.int (own_scr ((q0.toInt32) &&& (255 : Int32))))] [(.int (own_x13 ((own_x16 (((0 : Int32) ^^^ (own_scr ((q0.toInt32) &&& (255 : Int32)))) ^^^ (1 : Int32))) * (-2048144789 : Int32))))])) _
      refine own_istore X169.here hx (hb hby at_365) (l' := #[.val (.long q0), .second, .val (.long q1), .second, .val (.int p2), .val (.int 1), .val (.ref b167), .val (.int (q0.toInt32)), .val (.int (own_lu q0 (32 : Int32))), .val (.int (q1.toInt32)), .val (.int 0), .val (.int 1), .val (.int (own_x13 ((own_x16 (((0 : Int32) ^^^ (own_scr ((q0.toInt32) &&& (255 : Int32)))) ^^^ (1 : Int32))) * (-2048144789 : Int32)))), .val (.int (q0.toInt32)), .val (.int (own_scr ((q0.toInt32) &&& (255 : Int32))))]) rfl ?_
      refine own_iload X169.here hx (hb hby at_367) rfl ?_
      refine X169.ldcInt hx hown (mvT hZ (hw _ (List.mem_of_getElem? (i := 3) rfl))) (g := (mkF m 369 #[.val (.long q0), .second, .val (.long q1), .second, .val (.int p2), .val (.int 1), .val (.ref b167), .val (.int (q0.toInt32)), .val (.int (own_lu q0 (32 : Int32))), .val (.int (q1.toInt32)), .val (.int 0), .val (.int 1), .val (.int (own_x13 ((own_x16 (((0 : Int32) ^^^ (own_scr ((q0.toInt32) &&& (255 : Int32)))) ^^^ (1 : Int32))) * (-2048144789 : Int32)))), .val (.int (q0.toInt32)), .val (.int (own_scr ((q0.toInt32) &&& (255 : Int32))))] [(.int (own_x13 ((own_x16 (((0 : Int32) ^^^ (own_scr ((q0.toInt32) &&& (255 : Int32)))) ^^^ (1 : Int32))) * (-2048144789 : Int32))))])) rfl (hb hby at_369) _ ?_
      show Steps p.tables e below (T169.setTop (mkF m 371 #[.val (.long q0), .second, .val (.long q1), .second, .val (.int p2), .val (.int 1), .val (.ref b167), .val (.int (q0.toInt32)), .val (.int (own_lu q0 (32 : Int32))), .val (.int (q1.toInt32)), .val (.int 0), .val (.int 1), .val (.int (own_x13 ((own_x16 (((0 : Int32) ^^^ (own_scr ((q0.toInt32) &&& (255 : Int32)))) ^^^ (1 : Int32))) * (-2048144789 : Int32)))), .val (.int (q0.toInt32)), .val (.int (own_scr ((q0.toInt32) &&& (255 : Int32))))] [(.int (-1028477387)), (.int (own_x13 ((own_x16 (((0 : Int32) ^^^ (own_scr ((q0.toInt32) &&& (255 : Int32)))) ^^^ (1 : Int32))) * (-2048144789 : Int32))))])) _
      refine own_imul X169.here hx (hb hby at_371) ?_
      refine own_istore X169.here hx (hb hby at_372) (l' := #[.val (.long q0), .second, .val (.long q1), .second, .val (.int p2), .val (.int 1), .val (.ref b167), .val (.int (q0.toInt32)), .val (.int (own_lu q0 (32 : Int32))), .val (.int (q1.toInt32)), .val (.int 0), .val (.int 1), .val (.int ((own_x13 ((own_x16 (((0 : Int32) ^^^ (own_scr ((q0.toInt32) &&& (255 : Int32)))) ^^^ (1 : Int32))) * (-2048144789 : Int32))) * (-1028477387 : Int32))), .val (.int (q0.toInt32)), .val (.int (own_scr ((q0.toInt32) &&& (255 : Int32))))]) rfl ?_
      refine own_iload X169.here hx (hb hby at_374) rfl ?_
      refine own_iload X169.here hx (hb hby at_376) rfl ?_
      refine own_bipush X169.here hx (16 : Int32) (hb hby at_378) rfl ?_
      refine own_iushr X169.here hx (hb hby at_380) ?_
      refine own_ixor X169.here hx (hb hby at_381) ?_
      show Steps p.tables e below (T169.setTop (mkF m 382 #[.val (.long q0), .second, .val (.long q1), .second, .val (.int p2), .val (.int 1), .val (.ref b167), .val (.int (q0.toInt32)), .val (.int (own_lu q0 (32 : Int32))), .val (.int (q1.toInt32)), .val (.int 0), .val (.int 1), .val (.int ((own_x13 ((own_x16 (((0 : Int32) ^^^ (own_scr ((q0.toInt32) &&& (255 : Int32)))) ^^^ (1 : Int32))) * (-2048144789 : Int32))) * (-1028477387 : Int32))), .val (.int (q0.toInt32)), .val (.int (own_scr ((q0.toInt32) &&& (255 : Int32))))] [(.int (own_fin (((0 : Int32) ^^^ (own_scr ((q0.toInt32) &&& (255 : Int32)))) ^^^ (1 : Int32))))])) _
      refine own_istore X169.here hx (hb hby at_382) (l' := #[.val (.long q0), .second, .val (.long q1), .second, .val (.int p2), .val (.int 1), .val (.ref b167), .val (.int (q0.toInt32)), .val (.int (own_lu q0 (32 : Int32))), .val (.int (q1.toInt32)), .val (.int 0), .val (.int 1), .val (.int (own_fin (((0 : Int32) ^^^ (own_scr ((q0.toInt32) &&& (255 : Int32)))) ^^^ (1 : Int32)))), .val (.int (q0.toInt32)), .val (.int (own_scr ((q0.toInt32) &&& (255 : Int32))))]) rfl ?_
      refine own_aload X169.here hx (hb hby at_384) rfl rfl ?_
      refine st171 _ ?_
      show Steps p.tables e below (T171.setTop (mkF m 389 #[.val (.long q0), .second, .val (.long q1), .second, .val (.int p2), .val (.int 1), .val (.ref b167), .val (.int (q0.toInt32)), .val (.int (own_lu q0 (32 : Int32))), .val (.int (q1.toInt32)), .val (.int 0), .val (.int 1), .val (.int (own_fin (((0 : Int32) ^^^ (own_scr ((q0.toInt32) &&& (255 : Int32)))) ^^^ (1 : Int32)))), .val (.int (q0.toInt32)), .val (.int (own_scr ((q0.toInt32) &&& (255 : Int32))))] [(.int (own_fin (((0 : Int32) ^^^ (own_scr (own_t1 (own_by (q0.toInt32))))) ^^^ (1 : Int32))))])) _
      refine own_iload X171.here hx (hb hby at_389) rfl ?_
      refine own_icmpNo X171.here hx (hb hby at_391) (teq (by first | decide +kernel | simp only [own_blk0, own_blk1, own_t1e, own_t20, own_t21, own_t30, own_t31, own_scr0, Int32.xor_zero] : (own_fin (((0 : Int32) ^^^ (own_scr (own_t1 (own_by (q0.toInt32))))) ^^^ (1 : Int32))) = (own_fin (((0 : Int32) ^^^ (own_scr ((q0.toInt32) &&& (255 : Int32)))) ^^^ (1 : Int32))))).2 ?_
      refine own_iconst X171.here hx (1 : Int32) (hb hby at_394) rfl ?_
      refine own_goto X171.here hx 395 399 rfl (hb hby at_395) (by decide) (by decide) ?_
      exact retN X171 hx (t := .boolean) Bd.returns (by simp) (hb hby at_399) hr
    · show Q0 Z q0 q1 p2 h0 n0 _ T171.heap _
      rw [e171]
      exact ⟨rfl, N171⟩
  · obtain ⟨T172, h172, k172, X172, e172, E172, A172, st172⟩ := newP X0 hx hZ (hw _ (List.mem_of_getElem? (i := 1) rfl)) e0 (g := (mkF m 12 #[.val (.long q0), .second, .val (.long q1), .second, .val (.int p2), .val (.int 2), .unset, .unset, .unset, .unset, .unset, .unset, .unset, .unset, .unset] [(.int 2)])) rfl (hb hby at_12) rfl (by decide) (cap := 2) (by decide) (by decide) (by decide) (by decide)
    obtain ⟨b172, g172⟩ : ∃ z, z = h0.size := ⟨_, rfl⟩
    rw [← g172] at A172 st172
    have E172' := E172
    have gg172 : n0 ≤ b172 := Nat.le_trans Z0 (Nat.le_of_eq g172.symm)
    have Z172 : n0 ≤ h172.size := Nat.le_trans Z0 E172.1
    have V172 : Arv Z h172 b172 k172 .byte (2 : Int32) [(.int 0), (.int 0)] (.int 0) := (Arv.new A172 (by decide)).pad (pad_rep [] (.int 0) 2)
    obtain ⟨cl173, Ar173, q173, S173, M173, H173, J173⟩ := id V172
    have hin173 : ¬ ((0 : Int32) < 0 ∨ cl173.slots.size ≤ ((0 : Int32)).toNatClampNeg) := inb_of S173 ⟨by decide, by decide⟩
    obtain ⟨T174, h174, X174, e174, W174, st174⟩ := stB X172 hx hZ e172 Ar173 (j := (0 : Int32)) hin173 (g := (mkF m 27 #[.val (.long q0), .second, .val (.long q1), .second, .val (.int p2), .val (.int 2), .val (.ref b172), .unset, .unset, .unset, .unset, .unset, .unset, .unset, .unset] [(.int ((q0.toInt32).toInt8.toInt32)), (.int 0), (.ref b172)])) rfl rfl (hb hby at_27)
    have V174 : Arv Z h174 b172 k172 .byte (2 : Int32) [(.int (own_by (q0.toInt32))), (.int 0)] (.int 0) := Arv.set Ar173 q173 S173 M173 H173 J173 (fits_nar_byte _) W174 0 rfl (Nat.le_of_ble_eq_true rfl)
    have N174 := Fr.snoc X174 N0 gg172
    have Z174 : n0 ≤ h174.size := Nat.le_trans Z172 (Keep.of_wr W174).1
    obtain ⟨cl176, Ar176, q176, S176, M176, H176, J176⟩ := id V174
    have hin176 : ¬ ((1 : Int32) < 0 ∨ cl176.slots.size ≤ ((1 : Int32)).toNatClampNeg) := inb_of S176 ⟨by decide, by decide⟩
    obtain ⟨T177, h177, X177, e177, W177, st177⟩ := stB X174 hx hZ e174 Ar176 (j := (1 : Int32)) hin176 (g := (mkF m 43 #[.val (.long q0), .second, .val (.long q1), .second, .val (.int p2), .val (.int 2), .val (.ref b172), .unset, .unset, .unset, .unset, .unset, .unset, .unset, .unset] [(.int ((own_lu q0 (8 : Int32)).toInt8.toInt32)), (.int 1), (.ref b172)])) rfl rfl (hb hby at_43)
    have V177 : Arv Z h177 b172 k172 .byte (2 : Int32) [(.int (own_by (q0.toInt32))), (.int (own_by (own_lu q0 (8 : Int32))))] (.int 0) := Arv.set Ar176 q176 S176 M176 H176 J176 (fits_nar_byte _) W177 1 rfl (Nat.le_of_ble_eq_true rfl)
    have N177 := Fr.snoc X177 N174 gg172
    have Z177 : n0 ≤ h177.size := Nat.le_trans Z174 (Keep.of_wr W177).1
    obtain ⟨_, _, ⟨T179, L179, k179, n179⟩, -, X179, ⟨Lc179, hQ179, l179, y179, z179⟩, st179⟩ := Jvm.LawKit.callS X177 hx (y := (⟨"com/example/forkline/forkline/bucketing/MurmurHash3", "hash32", "([B)I"⟩ : MethodName)) hown (mvT hZ (hw _ (List.mem_of_getElem? (i := 4) rfl))) (mvT hZ (hw _ (List.mem_of_getElem? (i := 5) rfl))) (mvT hZ (hw _ (List.mem_of_getElem? (i := 6) rfl))) (mvT hZ (hw _ (List.mem_of_getElem? (i := 7) rfl))) (by decide) (backOf (W := 0) (rmH_2 l Z a0 hw [] b172 k172 (own_by (q0.toInt32)) (own_by (own_lu q0 (8 : Int32))) h177 n0 Z177 V177) hZ (hw _ (List.mem_of_getElem? (i := 7) rfl)) (hw _ (List.mem_of_getElem? (i := 6) rfl)) (by decide) (by decide)) (g := (mkF m 386 #[.val (.long q0), .second, .val (.long q1), .second, .val (.int p2), .val (.int 2), .val (.ref b172), .val (.int (q0.toInt32)), .val (.int (own_lu q0 (32 : Int32))), .val (.int (q1.toInt32)), .val (.int 0), .val (.int 2), .val (.int (own_fin (((0 : Int32) ^^^ (own_scr ((q0.toInt32) &&& (65535 : Int32)))) ^^^ (2 : Int32)))), .val (.int (q0.toInt32)), .val (.int (own_scr ((q0.toInt32) &&& (65535 : Int32))))] [(.ref b172)])) rfl (by rw [hml]; rfl) (argsL := [(.ref b172)]) (rest := []) (lenOf pd_285bB29I rfl) rfl (by show 2 * 0 + _ ≤ _; exact Nat.le_of_eq rfl) (hb hby at_386) (fun _ _ => ⟨rfl, e177, (by decide : 1 + 0 ≤ _), (by decide : 2 + 0 ≤ _)⟩)
    dsimp only [Pt.U, Pt.locs, Pt.cells, Pt.slots] at X179 l179 y179 z179 st179 hQ179
    subst l179 y179 z179
    obtain ⟨rfl, N179q, e179⟩ := hQ179
    have N179 := Fr.app N177 N179q
    obtain ⟨fs, hr, hrun, hended, hW, hsame⟩ := X179.leave (v := some (.int 1)) (fun h => by rw [Bd.returns] at h; cases h)
    refine ⟨_, _, pre0 _ ?_, hrun, hended, _, _, rfl, ?_, ⟨_, rfl⟩, hW, hsame.mono (by decide) (by decide)⟩
    · refine G164 _ ?_
      rw [hn]
      refine own_iload X0.here hx (hb hby at_10) rfl ?_
      refine st172 _ ?_
      show Steps p.tables e below (T172.setTop (mkF m 14 #[.val (.long q0), .second, .val (.long q1), .second, .val (.int p2), .val (.int 2), .unset, .unset, .unset, .unset, .unset, .unset, .unset, .unset, .unset] [(.ref b172)])) _
      refine own_astore X172.here hx (hb hby at_14) rfl (l' := #[.val (.long q0), .second, .val (.long q1), .second, .val (.int p2), .val (.int 2), .val (.ref b172), .unset, .unset, .unset, .unset, .unset, .unset, .unset, .unset]) rfl ?_
      refine own_iload X172.here hx (hb hby at_16) rfl ?_
      refine own_ifNo X172.here hx (hb hby at_18) ((if0 _ _).trans (tlt (by decide : (0 : Int32) < (2 : Int32))).2.2.2) ?_
      refine own_aload X172.here hx (hb hby at_21) rfl rfl ?_
      refine own_iconst X172.here hx (0 : Int32) (hb hby at_23) rfl ?_
      refine own_lloadN X172.here hx (hb hby at_24) rfl ?_
      refine own_l2i X172.here hx (hb hby at_25) ?_
      refine own_i2b X172.here hx (hb hby at_26) ?_
      refine st174 _ ?_
      show Steps p.tables e below (T174.setTop (mkF m 28 #[.val (.long q0), .second, .val (.long q1), .second, .val (.int p2), .val (.int 2), .val (.ref b172), .unset, .unset, .unset, .unset, .unset, .unset, .unset, .unset] [])) _
      refine own_iload X174.here hx (hb hby at_28) rfl ?_
      refine own_iconst X174.here hx (1 : Int32) (hb hby at_30) rfl ?_
      refine own_icmpNo X174.here hx (hb hby at_31) (tlt (by decide : (1 : Int32) < (2 : Int32))).2.2.2 ?_
      refine own_aload X174.here hx (hb hby at_34) rfl rfl ?_
      refine own_iconst X174.here hx (1 : Int32) (hb hby at_36) rfl ?_
      refine own_lloadN X174.here hx (hb hby at_37) rfl ?_
      refine own_bipush X174.here hx (8 : Int32) (hb hby at_38) rfl ?_
      refine own_lushr X174.here hx (hb hby at_40) ?_
      refine own_l2i X174.here hx (hb hby at_41) ?_
      show Steps p.tables e below (T174.setTop (mkF m 42 #[.val (.long q0), .second, .val (.long q1), .second, .val (.int p2), .val (.int 2), .val (.ref b172), .unset, .unset, .unset, .unset, .unset, .unset, .unset, .unset] [(.int (own_lu q0 (8 : Int32))), (.int 1), (.ref b172)])) _
      refine own_i2b X174.here hx (hb hby at_42) ?_
      refine st177 _ ?_
      show Steps p.tables e below (T177.setTop (mkF m 44 #[.val (.long q0), .second, .val (.long q1), .second, .val (.int p2), .val (.int 2), .val (.ref b172), .unset, .unset, .unset, .unset, .unset, .unset, .unset, .unset] [])) _
      refine own_iload X177.here hx (hb hby at_44) rfl ?_
      refine own_iconst X177.here hx (2 : Int32) (hb hby at_46) rfl ?_
      refine own_icmpYes X177.here hx 47 60 rfl (hb hby at_47) (flt (by decide : ¬ ((2 : Int32) < (2 : Int32)))).2.2.2 (by decide) (by decide) ?_
      refine own_iload X177.here hx (hb hby at_60) rfl ?_
      refine own_iconst X177.here hx (3 : Int32) (hb hby at_62) rfl ?_
      refine own_icmpYes X177.here hx 63 76 rfl (hb hby at_63) (flt (by decide : ¬ ((3 : Int32) < (2 : Int32)))).2.2.2 (by decide) (by decide) ?_
      refine own_iload X177.here hx (hb hby at_76) rfl ?_
      refine own_iconst X177.here hx (4 : Int32) (hb hby at_78) rfl ?_
      refine own_icmpYes X177.here hx 79 92 rfl (hb hby at_79) (flt (by decide : ¬ ((4 : Int32) < (2 : Int32)))).2.2.2 (by decide) (by decide) ?_
      refine own_iload X177.here hx (hb hby at_92) rfl ?_
      refine own_iconst X177.here hx (5 : Int32) (hb hby at_94) rfl ?_
      refine own_icmpYes X177.here hx 95 108 rfl (hb hby at_95) (flt (by decide : ¬ ((5 : Int32) < (2 : Int32)))).2.2.2 (by decide) (by decide) ?_
      refine own_iload X177.here hx (hb hby at_108) rfl ?_
      refine own_bipush X177.here hx (6 : Int32) (hb hby at_110) rfl ?_
      refine own_icmpYes X177.here hx 112 126 rfl (hb hby at_112) (flt (by decide : ¬ ((6 : Int32) < (2 : Int32)))).2.2.2 (by decide) (by decide) ?_
      refine own_iload X177.here hx (hb hby at_126) rfl ?_
      refine own_bipush X177.here hx (7 : Int32) (hb hby at_128) rfl ?_
      refine own_icmpYes X177.here hx 130 144 rfl (hb hby at_130) (flt (by decide : ¬ ((7 : Int32) < (2 : Int32)))).2.2.2 (by decide) (by decide) ?_
      refine own_iload X177.here hx (hb hby at_144) rfl ?_
      refine own_bipush X177.here hx (8 : Int32) (hb hby at_146) rfl ?_
      refine own_icmpYes X177.here hx 148 159 rfl (hb hby at_148) (flt (by decide : ¬ ((8 : Int32) < (2 : Int32)))).2.2.2 (by decide) (by decide) ?_
      refine own_iload X177.here hx (hb hby at_159) rfl ?_
      refine own_bipush X177.here hx (9 : Int32) (hb hby at_161) rfl ?_
      refine own_icmpYes X177.here hx 163 177 rfl (hb hby at_163) (flt (by decide : ¬ ((9 : Int32) < (2 : Int32)))).2.2.2 (by decide) (by decide) ?_
      refine own_iload X177.here hx (hb hby at_177) rfl ?_
      refine own_bipush X177.here hx (10 : Int32) (hb hby at_179) rfl ?_
      refine own_icmpYes X177.here hx 181 195 rfl (hb hby at_181) (flt (by decide : ¬ ((10 : Int32) < (2 : Int32)))).2.2.2 (by decide) (by decide) ?_
      refine own_lloadN X177.here hx (hb hby at_195) rfl ?_
      refine own_l2i X177.here hx (hb hby at_196) ?_
      refine own_istore X177.here hx (hb hby at_197) (l' := #[.val (.long q0), .second, .val (.long q1), .second, .val (.int p2), .val (.int 2), .val (.ref b172), .val (.int (q0.toInt32)), .unset, .unset, .unset, .unset, .unset, .unset, .unset]) rfl ?_
      refine own_lloadN X177.here hx (hb hby at_199) rfl ?_
      refine own_bipush X177.here hx (32 : Int32) (hb hby at_200) rfl ?_
      refine own_lushr X177.here hx (hb hby at_202) ?_
      refine own_l2i X177.here hx (hb hby at_203) ?_
      show Steps p.tables e below (T177.setTop (mkF m 204 #[.val (.long q0), .second, .val (.long q1), .second, .val (.int p2), .val (.int 2), .val (.ref b172), .val (.int (q0.toInt32)), .unset, .unset, .unset, .unset, .unset, .unset, .unset] [(.int (own_lu q0 (32 : Int32)))])) _
      refine own_istore X177.here hx (hb hby at_204) (l' := #[.val (.long q0), .second, .val (.long q1), .second, .val (.int p2), .val (.int 2), .val (.ref b172), .val (.int (q0.toInt32)), .val (.int (own_lu q0 (32 : Int32))), .unset, .unset, .unset, .unset, .unset, .unset]) rfl ?_
      refine own_lloadN X177.here hx (hb hby at_206) rfl ?_
      refine own_l2i X177.here hx (hb hby at_207) ?_
      refine own_istore X177.here hx (hb hby at_208) (l' := #[.val (.long q0), .second, .val (.long q1), .second, .val (.int p2), .val (.int 2), .val (.ref b172), .val (.int (q0.toInt32)), .val (.int (own_lu q0 (32 : Int32))), .val (.int (q1.toInt32)), .unset, .unset, .unset, .unset, .unset]) rfl ?_
      refine own_iload X177.here hx (hb hby at_210) rfl ?_
      refine own_iconst X177.here hx (4 : Int32) (hb hby at_212) rfl ?_
      refine own_idiv X177.here hx (hb hby at_213) (by decide) ?_
      show Steps p.tables e below (T177.setTop (mkF m 214 #[.val (.long q0), .second, .val (.long q1), .second, .val (.int p2), .val (.int 2), .val (.ref b172), .val (.int (q0.toInt32)), .val (.int (own_lu q0 (32 : Int32))), .val (.int (q1.toInt32)), .unset, .unset, .unset, .unset, .unset] [(.int 0)])) _
      refine own_istore X177.here hx (hb hby at_214) (l' := #[.val (.long q0), .second, .val (.long q1), .second, .val (.int p2), .val (.int 2), .val (.ref b172), .val (.int (q0.toInt32)), .val (.int (own_lu q0 (32 : Int32))), .val (.int (q1.toInt32)), .val (.int 0), .unset, .unset, .unset, .unset]) rfl ?_
      refine own_iload X177.here hx (hb hby at_216) rfl ?_
      refine own_iconst X177.here hx (4 : Int32) (hb hby at_218) rfl ?_
      refine own_irem X177.here hx (hb hby at_219) (by decide) ?_
      show Steps p.tables e below (T177.setTop (mkF m 220 #[.val (.long q0), .second, .val (.long q1), .second, .val (.int p2), .val (.int 2), .val (.ref b172), .val (.int (q0.toInt32)), .val (.int (own_lu q0 (32 : Int32))), .val (.int (q1.toInt32)), .val (.int 0), .unset, .unset, .unset, .unset] [(.int 2)])) _
      refine own_istore X177.here hx (hb hby at_220) (l' := #[.val (.long q0), .second, .val (.long q1), .second, .val (.int p2), .val (.int 2), .val (.ref b172), .val (.int (q0.toInt32)), .val (.int (own_lu q0 (32 : Int32))), .val (.int (q1.toInt32)), .val (.int 0), .val (.int 2), .unset, .unset, .unset]) rfl ?_
      refine own_iconst X177.here hx (0 : Int32) (hb hby at_222) rfl ?_
      refine own_istore X177.here hx (hb hby at_223) (l' := #[.val (.long q0), .second, .val (.long q1), .second, .val (.int p2), .val (.int 2), .val (.ref b172), .val (.int (q0.toInt32)), .val (.int (own_lu q0 (32 : Int32))), .val (.int (q1.toInt32)), .val (.int 0), .val (.int 2), .val (.int 0), .unset, .unset]) rfl ?_
      refine own_iload X177.here hx (hb hby at_225) rfl ?_
      refine own_iconst X177.here hx (1 : Int32) (hb hby at_227) rfl ?_
      refine own_icmpYes X177.here hx 228 240 rfl (hb hby at_228) (tlt (by decide : (0 : Int32) < (1 : Int32))).1 (by decide) (by decide) ?_
      refine own_iload X177.here hx (hb hby at_240) rfl ?_
      refine own_iconst X177.here hx (2 : Int32) (hb hby at_242) rfl ?_
      refine own_icmpYes X177.here hx 243 255 rfl (hb hby at_243) (tlt (by decide : (0 : Int32) < (2 : Int32))).1 (by decide) (by decide) ?_
      refine own_iload X177.here hx (hb hby at_255) rfl ?_
      refine own_ifNo X177.here hx (hb hby at_257) ((if0 _ _).trans (teq (by decide : (0 : Int32) = (0 : Int32))).2) ?_
      refine own_iload X177.here hx (hb hby at_260) rfl ?_
      refine own_goto X177.here hx 262 278 rfl (hb hby at_262) (by decide) (by decide) ?_
      refine own_istore X177.here hx (hb hby at_278) (l' := #[.val (.long q0), .second, .val (.long q1), .second, .val (.int p2), .val (.int 2), .val (.ref b172), .val (.int (q0.toInt32)), .val (.int (own_lu q0 (32 : Int32))), .val (.int (q1.toInt32)), .val (.int 0), .val (.int 2), .val (.int 0), .val (.int (q0.toInt32)), .unset]) rfl ?_
      refine own_iload X177.here hx (hb hby at_280) rfl ?_
      refine own_ifNo X177.here hx (hb hby at_282) ((if0 _ _).trans (tlt (by decide : (0 : Int32) < (2 : Int32))).2.2.2) ?_
      refine own_iload X177.here hx (hb hby at_285) rfl ?_
      refine own_iconst X177.here hx (1 : Int32) (hb hby at_287) rfl ?_
      refine own_bipush X177.here hx (8 : Int32) (hb hby at_288) rfl ?_
      refine own_iload X177.here hx (hb hby at_290) rfl ?_
      refine own_imul X177.here hx (hb hby at_292) ?_
      show Steps p.tables e below (T177.setTop (mkF m 293 #[.val (.long q0), .second, .val (.long q1), .second, .val (.int p2), .val (.int 2), .val (.ref b172), .val (.int (q0.toInt32)), .val (.int (own_lu q0 (32 : Int32))), .val (.int (q1.toInt32)), .val (.int 0), .val (.int 2), .val (.int 0), .val (.int (q0.toInt32)), .unset] [(.int 16), (.int 1), (.int (q0.toInt32))])) _
      refine own_ishl X177.here hx (hb hby at_293) ?_
      show Steps p.tables e below (T177.setTop (mkF m 294 #[.val (.long q0), .second, .val (.long q1), .second, .val (.int p2), .val (.int 2), .val (.ref b172), .val (.int (q0.toInt32)), .val (.int (own_lu q0 (32 : Int32))), .val (.int (q1.toInt32)), .val (.int 0), .val (.int 2), .val (.int 0), .val (.int (q0.toInt32)), .unset] [(.int 65536), (.int (q0.toInt32))])) _
      refine own_iconst X177.here hx (1 : Int32) (hb hby at_294) rfl ?_
      refine own_isub X177.here hx (hb hby at_295) ?_
      show Steps p.tables e below (T177.setTop (mkF m 296 #[.val (.long q0), .second, .val (.long q1), .second, .val (.int p2), .val (.int 2), .val (.ref b172), .val (.int (q0.toInt32)), .val (.int (own_lu q0 (32 : Int32))), .val (.int (q1.toInt32)), .val (.int 0), .val (.int 2), .val (.int 0), .val (.int (q0.toInt32)), .unset] [(.int 65535), (.int (q0.toInt32))])) _
      refine own_iand X177.here hx (hb hby at_296) ?_
      show Steps p.tables e below (T177.setTop (mkF m 297 #[.val (.long q0), .second, .val (.long q1), .second, .val (.int p2), .val (.int 2), .val (.ref b172), .val (.int (q0.toInt32)), .val (.int (own_lu q0 (32 : Int32))), .val (.int (q1.toInt32)), .val (.int 0), .val (.int 2), .val (.int 0), .val (.int (q0.toInt32)), .unset] [(.int ((q0.toInt32) &&& (65535 : Int32)))])) _
      refine own_istore X177.here hx (hb hby at_297) (l' := #[.val (.long q0), .second, .val (.long q1), .second, .val (.int p2), .val (.int 2), .val (.ref b172), .val (.int (q0.toInt32)), .val (.int (own_lu q0 (32 : Int32))), .val (.int (q1.toInt32)), .val (.int 0), .val (.int 2), .val (.int 0), .val (.int (q0.toInt32)), .val (.int ((q0.toInt32) &&& (65535 : Int32)))]) rfl ?_
      refine own_iload X177.here hx (hb hby at_299) rfl ?_
      refine X177.ldcInt hx hown (mvT hZ (hw _ (List.mem_of_getElem? (i := 26) rfl))) (g := (mkF m 301 #[.val (.long q0), .second, .val (.long q1), .second, .val (.int p2), .val (.int 2), .val (.ref b172), .val (.int (q0.toInt32)), .val (.int (own_lu q0 (32 : Int32))), .val (.int (q1.toInt32)), .val (.int 0), .val (.int 2), .val (.int 0), .val (.int (q0.toInt32)), .val (.int ((q0.toInt32) &&& (65535 : Int32)))] [(.int ((q0.toInt32) &&& (65535 : Int32)))])) rfl (hb hby at_301) _ ?_
      show Steps p.tables e below (T177.setTop (mkF m 303 #[.val (.long q0), .second, .val (.long q1), .second, .val (.int p2), .val (.int 2), .val (.ref b172), .val (.int (q0.toInt32)), .val (.int (own_lu q0 (32 : Int32))), .val (.int (q1.toInt32)), .val (.int 0), .val (.int 2), .val (.int 0), .val (.int (q0.toInt32)), .val (.int ((q0.toInt32) &&& (65535 : Int32)))] [(.int (-862048943)), (.int ((q0.toInt32) &&& (65535 : Int32)))])) _
      refine own_imul X177.here hx (hb hby at_303) ?_
      refine own_istore X177.here hx (hb hby at_304) (l' := #[.val (.long q0), .second, .val (.long q1), .second, .val (.int p2), .val (.int 2), .val (.ref b172), .val (.int (q0.toInt32)), .val (.int (own_lu q0 (32 : Int32))), .val (.int (q1.toInt32)), .val (.int 0), .val (.int 2), .val (.int 0), .val (.int (q0.toInt32)), .val (.int (((q0.toInt32) &&& (65535 : Int32)) * (-862048943 : Int32)))]) rfl ?_
      refine own_iload X177.here hx (hb hby at_306) rfl ?_
      refine own_bipush X177.here hx (15 : Int32) (hb hby at_308) rfl ?_
      refine own_ishl X177.here hx (hb hby at_310) ?_
      refine own_iload X177.here hx (hb hby at_311) rfl ?_
      refine own_bipush X177.here hx (17 : Int32) (hb hby at_313) rfl ?_
      refine own_iushr X177.here hx (hb hby at_315) ?_
      refine own_ior X177.here hx (hb hby at_316) ?_
      show Steps p.tables e below (T177.setTop (mkF m 317 #[.val (.long q0), .second, .val (.long q1), .second, .val (.int p2), .val (.int 2), .val (.ref b172), .val (.int (q0.toInt32)), .val (.int (own_lu q0 (32 : Int32))), .val (.int (q1.toInt32)), .val (.int 0), .val (.int 2), .val (.int 0), .val (.int (q0.toInt32)), .val (.int (((q0.toInt32) &&& (65535 : Int32)) * (-862048943 : Int32)))] [(.int (own_rotl (((q0.toInt32) &&& (65535 : Int32)) * (-862048943 : Int32)) (15 : Int32)))])) _
      refine own_istore X177.here hx (hb hby at_317) (l' := #[.val (.long q0), .second, .val (.long q1), .second, .val (.int p2), .val (.int 2), .val (.ref b172), .val (.int (q0.toInt32)), .val (.int (own_lu q0 (32 : Int32))), .val (.int (q1.toInt32)), .val (.int 0), .val (.int 2), .val (.int 0), .val (.int (q0.toInt32)), .val (.int (own_rotl (((q0.toInt32) &&& (65535 : Int32)) * (-862048943 : Int32)) (15 : Int32)))]) rfl ?_
      refine own_iload X177.here hx (hb hby at_319) rfl ?_
      refine X177.ldcInt hx hown (mvT hZ (hw _ (List.mem_of_getElem? (i := 27) rfl))) (g := (mkF m 321 #[.val (.long q0), .second, .val (.long q1), .second, .val (.int p2), .val (.int 2), .val (.ref b172), .val (.int (q0.toInt32)), .val (.int (own_lu q0 (32 : Int32))), .val (.int (q1.toInt32)), .val (.int 0), .val (.int 2), .val (.int 0), .val (.int (q0.toInt32)), .val (.int (own_rotl (((q0.toInt32) &&& (65535 : Int32)) * (-862048943 : Int32)) (15 : Int32)))] [(.int (own_rotl (((q0.toInt32) &&& (65535 : Int32)) * (-862048943 : Int32)) (15 : Int32)))])) rfl (hb hby at_321) _ ?_
      show Steps p.tables e below (T177.setTop (mkF m 323 #[.val (.long q0), .second, .val (.long q1), .second, .val (.int p2), .val (.int 2), .val (.ref b172), .val (.int (q0.toInt32)), .val (.int (own_lu q0 (32 : Int32))), .val (.int (q1.toInt32)), .val (.int 0), .val (.int 2), .val (.int 0), .val (.int (q0.toInt32)), .val (.int (own_rotl (((q0.toInt32) &&& (65535 : Int32)) * (-862048943 : Int32)) (15 : Int32)))] [(.int 461845907), (.int (own_rotl (((q0.toInt32) &&& (65535 : Int32)) * (-862048943 : Int32)) (15 : Int32)))])) _
      refine own_imul X177.here hx (hb hby at_323) ?_
      show Steps p.tables e below (T177.setTop (mkF m 324 #[.val (.long q0), .second, .val (.long q1), .second, .val (.int p2), .val (.int 2), .val (.ref b172), .val (.int (q0.toInt32)), .val (.int (own_lu q0 (32 : Int32))), .val (.int (q1.toInt32)), .val (.int 0), .val (.int 2), .val (.int 0), .val (.int (q0.toInt32)), .val (.int (own_rotl (((q0.toInt32) &&& (65535 : Int32)) * (-862048943 : Int32)) (15 : Int32)))] [(.int (own_scr ((q0.toInt32) &&& (65535 : Int32))))])) _
      refine own_istore X177.here hx (hb hby at_324) (l' := #[.val (.long q0), .second, .val (.long q1), .second, .val (.int p2), .val (.int 2), .val (.ref b172), .val (.int (q0.toInt32)), .val (.int (own_lu q0 (32 : Int32))), .val (.int (q1.toInt32)), .val (.int 0), .val (.int 2), .val (.int 0), .val (.int (q0.toInt32)), .val (.int (own_scr ((q0.toInt32) &&& (65535 : Int32))))]) rfl ?_
      refine own_iload X177.here hx (hb hby at_326) rfl ?_
      refine own_iload X177.here hx (hb hby at_328) rfl ?_
      refine own_ixor X177.here hx (hb hby at_330) ?_
      refine own_istore X177.here hx (hb hby at_331) (l' := #[.val (.long q0), .second, .val (.long q1), .second, .val (.int p2), .val (.int 2), .val (.ref b172), .val (.int (q0.toInt32)), .val (.int (own_lu q0 (32 : Int32))), .val (.int (q1.toInt32)), .val (.int 0), .val (.int 2), .val (.int ((0 : Int32) ^^^ (own_scr ((q0.toInt32) &&& (65535 : Int32))))), .val (.int (q0.toInt32)), .val (.int (own_scr ((q0.toInt32) &&& (65535 : Int32))))]) rfl ?_
      refine own_iload X177.here hx (hb hby at_333) rfl ?_
      refine own_iload X177.here hx (hb hby at_335) rfl ?_
      refine own_ixor X177.here hx (hb hby at_337) ?_
      refine own_istore X177.here hx (hb hby at_338) (l' := #[.val (.long q0), .second, .val (.long q1), .second, .val (.int p2), .val (.int 2), .val (.ref b172), .val (.int (q0.toInt32)), .val (.int (own_lu q0 (32 : Int32))), .val (.int (q1.toInt32)), .val (.int 0), .val (.int 2), .val (.int (((0 : Int32) ^^^ (own_scr ((q0.toInt32) &&& (65535 : Int32)))) ^^^ (2 : Int32))), .val (.int (q0.toInt32)), .val (.int (own_scr ((q0.toInt32) &&& (65535 : Int32))))]) rfl ?_
      refine own_iload X177.here hx (hb hby at_340) rfl ?_
      refine own_iload X177.here hx (hb hby at_342) rfl ?_
      refine own_bipush X177.here hx (16 : Int32) (hb hby at_344) rfl ?_
      refine own_iushr X177.here hx (hb hby at_346) ?_
      refine own_ixor X177.here hx (hb hby at_347) ?_
      show Steps p.tables e below (T177.setTop (mkF m 348 #[.val (.long q0), .second, .val (.long q1), .second, .val (.int p2), .val (.int 2), .val (.ref b172), .val (.int (q0.toInt32)), .val (.int (own_lu q0 (32 : Int32))), .val (.int (q1.toInt32)), .val (.int 0), .val (.int 2), .val (.int (((0 : Int32) ^^^ (own_scr ((q0.toInt32) &&& (65535 : Int32)))) ^^^ (2 : Int32))), .val (.int (q0.toInt32)), .val (.int (own_scr ((q0.toInt32) &&& (65535 : Int32))))] [(.int (own_x16 (((0 : Int32) ^^^ (own_scr ((q0.toInt32) &&& (65535 : Int32)))) ^^^ (2 : Int32))))])) _
      refine own_istore X177.here hx (hb hby at_348) (l' := #[.val (.long q0), .second, .val (.long q1), .second, .val (.int p2), .val (.int 2), .val (.ref b172), .val (.int (q0.toInt32)), .val (.int (own_lu q0 (32 : Int32))), .val (.int (q1.toInt32)), .val (.int 0), .val (.int 2), .val (.int (own_x16 (((0 : Int32) ^^^ (own_scr ((q0.toInt32) &&& (65535 : Int32)))) ^^^ (2 : Int32)))), .val (.int (q0.toInt32)), .val (.int (own_scr ((q0.toInt32) &&& (65535 : Int32))))]) rfl ?_
      refine own_iload X177.here hx (hb hby at_350) rfl ?_
      refine X177.ldcInt hx hown (mvT hZ (hw _ (List.mem_of_getElem? (i := 2) rfl))) (g := (mkF m 352 #[.val (.long q0), .second, .val (.long q1), .second, .val (.int p2), .val (.int 2), .val (.ref b172), .val (.int (q0.toInt32)), .val (.int (own_lu q0 (32 : Int32))), .val (.int (q1.toInt32)), .val (.int 0), .val (.int 2), .val (.int (own_x16 (((0 : Int32) ^^^ (own_scr ((q0.toInt32) &&& (65535 : Int32)))) ^^^ (2 : Int32)))), .val (.int (q0.toInt32)), .val (.int (own_scr ((q0.toInt32) &&& (65535 : Int32))))] [(.int (own_x16 (((0 : Int32) ^^^ (own_scr ((q0.toInt32) &&& (65535 : Int32)))) ^^^ (2 : Int32))))])) rfl (hb hby at_352) _ ?_
      show Steps p.tables e below (T177.setTop (mkF m 354 #[.val (.long q0), .second, .val (.long q1), .second, .val (.int p2), .val (.int 2), .val (.ref b172), .val (.int (q0.toInt32)), .val (.int (own_lu q0 (32 : Int32))), .val (.int (q1.toInt32)), .val (.int 0), .val (.int 2), .val (.int (own_x16 (((0 : Int32) ^^^ (own_scr ((q0.toInt32) &&& (65535 : Int32)))) ^^^ (2 : Int32)))), .val (.int (q0.toInt32)), .val (.int (own_scr ((q0.toInt32) &&& (65535 : Int32))))] [(.int (-2048144789)), (.int (own_x16 (((0 : Int32) ^^^ (own_scr ((q0.toInt32) &&& (65535 : Int32)))) ^^^ (2 : Int32))))])) _
      refine own_imul X177.here hx (hb hby at_354) ?_
      refine own_istore X177.here hx (hb hby at_355) (l' := #[.val (.long q0), .second, .val (.long q1), .second, .val (.int p2), .val (.int 2), .val (.ref b172), .val (.int (q0.toInt32)), .val (.int (own_lu q0 (32 : Int32))), .val (.int (q1.toInt32)), .val (.int 0), .val (.int 2), .val (.int ((own_x16 (((0 : Int32) ^^^ (own_scr ((q0.toInt32) &&& (65535 : Int32)))) ^^^ (2 : Int32))) * (-2048144789 : Int32))), .val (.int (q0.toInt32)), .val (.int (own_scr ((q0.toInt32) &&& (65535 : Int32))))]) rfl ?_
      refine own_iload X177.here hx (hb hby at_357) rfl ?_
      refine own_iload X177.here hx (hb hby at_359) rfl ?_
      refine own_bipush X177.here hx (13 : Int32) (hb hby at_361) rfl ?_
      refine own_iushr X177.here hx (hb hby at_363) ?_
      refine own_ixor X177.here hx (hb hby at_364) ?_
      show Steps p.tables e below (T177.setTop (mkF m 365 #[.val (.long q0), .second, .val (.long q1), .second, .val (.int p2), .val (.int 2), .val (.ref b172), .val (.int (q0.toInt32)), .val (.int (own_lu q0 (32 : Int32))), .val (.int (q1.toInt32)), .val (.int 0), .val (.int 2), .val (.int ((own_x16 (((0 : Int32) ^^^ (own_scr ((q0.toInt32) &&& (65535 : Int32)))) ^^^ (2 : Int32))) * (-2048144789 : Int32))), .val (.int (q0.toInt32)), .val (.int (own_scr ((q0.toInt32) &&& (65535 : Int32))))] [(.int (own_x13 ((own_x16 (((0 : Int32) ^^^ (own_scr ((q0.toInt32) &&& (65535 : Int32)))) ^^^ (2 : Int32))) * (-2048144789 : Int32))))])) _
      refine own_istore X177.here hx (hb hby at_365) (l' := #[.val (.long q0), .second, .val (.long q1), .second, .val (.int p2), .val (.int 2), .val (.ref b172), .val (.int (q0.toInt32)), .val (.int (own_lu q0 (32 : Int32))), .val (.int (q1.toInt32)), .val (.int 0), .val (.int 2), .val (.int (own_x13 ((own_x16 (((0 : Int32) ^^^ (own_scr ((q0.toInt32) &&& (65535 : Int32)))) ^^^ (2 : Int32))) * (-2048144789 : Int32)))), .val (.int (q0.toInt32)), .val (.int (own_scr ((q0.toInt32) &&& (65535 : Int32))))]) rfl ?_
      refine own_iload X177.here hx (hb hby at_367) rfl ?_
      refine X177.ldcInt hx hown (mvT hZ (hw _ (List.mem_of_getElem? (i := 3) rfl))) (g := (mkF m 369 #[.val (.long q0), .second, .val (.long q1), .second, .val (.int p2), .val (.int 2), .val (.ref b172), .val (.int (q0.toInt32)), .val (.int (own_lu q0 (32 : Int32))), .val (.int (q1.toInt32)), .val (.int 0), .val (.int 2), .val (.int (own_x13 ((own_x16 (((0 : Int32) ^^^ (own_scr ((q0.toInt32) &&& (65535 : Int32)))) ^^^ (2 : Int32))) * (-2048144789 : Int32)))), .val (.int (q0.toInt32)), .val (.int (own_scr ((q0.toInt32) &&& (65535 : Int32))))] [(.int (own_x13 ((own_x16 (((0 : Int32) ^^^ (own_scr ((q0.toInt32) &&& (65535 : Int32)))) ^^^ (2 : Int32))) * (-2048144789 : Int32))))])) rfl (hb hby at_369) _ ?_
      show Steps p.tables e below (T177.setTop (mkF m 371 #[.val (.long q0), .second, .val (.long q1), .second, .val (.int p2), .val (.int 2), .val (.ref b172), .val (.int (q0.toInt32)), .val (.int (own_lu q0 (32 : Int32))), .val (.int (q1.toInt32)), .val (.int 0), .val (.int 2), .val (.int (own_x13 ((own_x16 (((0 : Int32) ^^^ (own_scr ((q0.toInt32) &&& (65535 : Int32)))) ^^^ (2 : Int32))) * (-2048144789 : Int32)))), .val (.int (q0.toInt32)), .val (.int (own_scr ((q0.toInt32) &&& (65535 : Int32))))] [(.int (-1028477387)), (.int (own_x13 ((own_x16 (((0 : Int32) ^^^ (own_scr ((q0.toInt32) &&& (65535 : Int32)))) ^^^ (2 : Int32))) * (-2048144789 : Int32))))])) _
      refine own_imul X177.here hx (hb hby at_371) ?_
      refine own_istore X177.here hx (hb hby at_372) (l' := #[.val (.long q0), .second, .val (.long q1), .second, .val (.int p2), .val (.int 2), .val (.ref b172), .val (.int (q0.toInt32)), .val (.int (own_lu q0 (32 : Int32))), .val (.int (q1.toInt32)), .val (.int 0), .val (.int 2), .val (.int ((own_x13 ((own_x16 (((0 : Int32) ^^^ (own_scr ((q0.toInt32) &&& (65535 : Int32)))) ^^^ (2 : Int32))) * (-2048144789 : Int32))) * (-1028477387 : Int32))), .val (.int (q0.toInt32)), .val (.int (own_scr ((q0.toInt32) &&& (65535 : Int32))))]) rfl ?_
      refine own_iload X177.here hx (hb hby at_374) rfl ?_
      refine own_iload X177.here hx (hb hby at_376) rfl ?_
      refine own_bipush X177.here hx (16 : Int32) (hb hby at_378) rfl ?_
      refine own_iushr X177.here hx (hb hby at_380) ?_
      refine own_ixor X177.here hx (hb hby at_381) ?_
      show Steps p.tables e below (T177.setTop (mkF m 382 #[.val (.long q0), .second, .val (.long q1), .second, .val (.int p2), .val (.int 2), .val (.ref b172), .val (.int (q0.toInt32)), .val (.int (own_lu q0 (32 : Int32))), .val (.int (q1.toInt32)), .val (.int 0), .val (.int 2), .val (.int ((own_x13 ((own_x16 (((0 : Int32) ^^^ (own_scr ((q0.toInt32) &&& (65535 : Int32)))) ^^^ (2 : Int32))) * (-2048144789 : Int32))) * (-1028477387 : Int32))), .val (.int (q0.toInt32)), .val (.int (own_scr ((q0.toInt32) &&& (65535 : Int32))))] [(.int (own_fin (((0 : Int32) ^^^ (own_scr ((q0.toInt32) &&& (65535 : Int32)))) ^^^ (2 : Int32))))])) _
      refine own_istore X177.here hx (hb hby at_382) (l' := #[.val (.long q0), .second, .val (.long q1), .second, .val (.int p2), .val (.int 2), .val (.ref b172), .val (.int (q0.toInt32)), .val (.int (own_lu q0 (32 : Int32))), .val (.int (q1.toInt32)), .val (.int 0), .val (.int 2), .val (.int (own_fin (((0 : Int32) ^^^ (own_scr ((q0.toInt32) &&& (65535 : Int32)))) ^^^ (2 : Int32)))), .val (.int (q0.toInt32)), .val (.int (own_scr ((q0.toInt32) &&& (65535 : Int32))))]) rfl ?_
      refine own_aload X177.here hx (hb hby at_384) rfl rfl ?_
      refine st179 _ ?_
      show Steps p.tables e below (T179.setTop (mkF m 389 #[.val (.long q0), .second, .val (.long q1), .second, .val (.int p2), .val (.int 2), .val (.ref b172), .val (.int (q0.toInt32)), .val (.int (own_lu q0 (32 : Int32))), .val (.int (q1.toInt32)), .val (.int 0), .val (.int 2), .val (.int (own_fin (((0 : Int32) ^^^ (own_scr ((q0.toInt32) &&& (65535 : Int32)))) ^^^ (2 : Int32)))), .val (.int (q0.toInt32)), .val (.int (own_scr ((q0.toInt32) &&& (65535 : Int32))))] [(.int (own_fin (((0 : Int32) ^^^ (own_scr (own_t2 (own_by (q0.toInt32)) (own_by (own_lu q0 (8 : Int32)))))) ^^^ (2 : Int32))))])) _
      refine own_iload X179.here hx (hb hby at_389) rfl ?_
      refine own_icmpNo X179.here hx (hb hby at_391) (teq (by first | decide +kernel | simp only [own_blk0, own_blk1, own_t1e, own_t20, own_t21, own_t30, own_t31, own_scr0, Int32.xor_zero] : (own_fin (((0 : Int32) ^^^ (own_scr (own_t2 (own_by (q0.toInt32)) (own_by (own_lu q0 (8 : Int32)))))) ^^^ (2 : Int32))) = (own_fin (((0 : Int32) ^^^ (own_scr ((q0.toInt32) &&& (65535 : Int32)))) ^^^ (2 : Int32))))).2 ?_
      refine own_iconst X179.here hx (1 : Int32) (hb hby at_394) rfl ?_
      refine own_goto X179.here hx 395 399 rfl (hb hby at_395) (by decide) (by decide) ?_
      exact retN X179 hx (t := .boolean) Bd.returns (by simp) (hb hby at_399) hr
    · show Q0 Z q0 q1 p2 h0 n0 _ T179.heap _
      rw [e179]
      exact ⟨rfl, N179⟩
  · obtain ⟨T180, h180, k180, X180, e180, E180, A180, st180⟩ := newP X0 hx hZ (hw _ (List.mem_of_getElem? (i := 1) rfl)) e0 (g := (mkF m 12 #[.val (.long q0), .second, .val (.long q1), .second, .val (.int p2), .val (.int 3), .unset, .unset, .unset, .unset, .unset, .unset, .unset, .unset, .unset] [(.int 3)])) rfl (hb hby at_12) rfl (by decide) (cap := 3) (by decide) (by decide) (by decide) (by decide)
    obtain ⟨b180, g180⟩ : ∃ z, z = h0.size := ⟨_, rfl⟩
    rw [← g180] at A180 st180
    have E180' := E180
    have gg180 : n0 ≤ b180 := Nat.le_trans Z0 (Nat.le_of_eq g180.symm)
    have Z180 : n0 ≤ h180.size := Nat.le_trans Z0 E180.1
    have V180 : Arv Z h180 b180 k180 .byte (3 : Int32) [(.int 0), (.int 0), (.int 0)] (.int 0) := (Arv.new A180 (by decide)).pad (pad_rep [] (.int 0) 3)
    obtain ⟨cl181, Ar181, q181, S181, M181, H181, J181⟩ := id V180
    have hin181 : ¬ ((0 : Int32) < 0 ∨ cl181.slots.size ≤ ((0 : Int32)).toNatClampNeg) := inb_of S181 ⟨by decide, by decide⟩
    obtain ⟨T182, h182, X182, e182, W182, st182⟩ := stB X180 hx hZ e180 Ar181 (j := (0 : Int32)) hin181 (g := (mkF m 27 #[.val (.long q0), .second, .val (.long q1), .second, .val (.int p2), .val (.int 3), .val (.ref b180), .unset, .unset, .unset, .unset, .unset, .unset, .unset, .unset] [(.int ((q0.toInt32).toInt8.toInt32)), (.int 0), (.ref b180)])) rfl rfl (hb hby at_27)
    have V182 : Arv Z h182 b180 k180 .byte (3 : Int32) [(.int (own_by (q0.toInt32))), (.int 0), (.int 0)] (.int 0) := Arv.set Ar181 q181 S181 M181 H181 J181 (fits_nar_byte _) W182 0 rfl (Nat.le_of_ble_eq_true rfl)
    have N182 := Fr.snoc X182 N0 gg180
    have Z182 : n0 ≤ h182.size := Nat.le_trans Z180 (Keep.of_wr W182).1
    obtain ⟨cl184, Ar184, q184, S184, M184, H184, J184⟩ := id V182
    have hin184 : ¬ ((1 : Int32) < 0 ∨ cl184.slots.size ≤ ((1 : Int32)).toNatClampNeg) := inb_of S184 ⟨by decide, by decide⟩
    obtain ⟨T185, h185, X185, e185, W185, st185⟩ := stB X182 hx hZ e182 Ar184 (j := (1 : Int32)) hin184 (g := (mkF m 43 #[.val (.long q0), .second, .val (.long q1), .second, .val (.int p2), .val (.int 3), .val (.ref b180), .unset, .unset, .unset, .unset, .unset, .unset, .unset, .unset] [(.int ((own_lu q0 (8 : Int32)).toInt8.toInt32)), (.int 1), (.ref b180)])) rfl rfl (hb hby at_43)
    have V185 : Arv Z h185 b180 k180 .byte (3 : Int32) [(.int (own_by (q0.toInt32))), (.int (own_by (own_lu q0 (8 : Int32)))), (.int 0)] (.int 0) := Arv.set Ar184 q184 S184 M184 H184 J184 (fits_nar_byte _) W185 1 rfl (Nat.le_of_ble_eq_true rfl)
    have N185 := Fr.snoc X185 N182 gg180
    have Z185 : n0 ≤ h185.size := Nat.le_trans Z182 (Keep.of_wr W185).1
    obtain ⟨cl187, Ar187, q187, S187, M187, H187, J187⟩ := id V185
    have hin187 : ¬ ((2 : Int32) < 0 ∨ cl187.slots.size ≤ ((2 : Int32)).toNatClampNeg) := inb_of S187 ⟨by decide, by decide⟩
    obtain ⟨T188, h188, X188, e188, W188, st188⟩ := stB X185 hx hZ e185 Ar187 (j := (2 : Int32)) hin187 (g := (mkF m 59 #[.val (.long q0), .second, .val (.long q1), .second, .val (.int p2), .val (.int 3), .val (.ref b180), .unset, .unset, .unset, .unset, .unset, .unset, .unset, .unset] [(.int ((own_lu q0 (16 : Int32)).toInt8.toInt32)), (.int 2), (.ref b180)])) rfl rfl (hb hby at_59)
    have V188 : Arv Z h188 b180 k180 .byte (3 : Int32) [(.int (own_by (q0.toInt32))), (.int (own_by (own_lu q0 (8 : Int32)))), (.int (own_by (own_lu q0 (16 : Int32))))] (.int 0) := Arv.set Ar187 q187 S187 M187 H187 J187 (fits_nar_byte _) W188 2 rfl (Nat.le_of_ble_eq_true rfl)
    have N188 := Fr.snoc X188 N185 gg180
    have Z188 : n0 ≤ h188.size := Nat.le_trans Z185 (Keep.of_wr W188).1
    obtain ⟨_, _, ⟨T190, L190, k190, n190⟩, -, X190, ⟨Lc190, hQ190, l190, y190, z190⟩, st190⟩ := Jvm.LawKit.callS X188 hx (y := (⟨"com/example/forkline/forkline/bucketing/MurmurHash3", "hash32", "([B)I"⟩ : MethodName)) hown (mvT hZ (hw _ (List.mem_of_getElem? (i := 4) rfl))) (mvT hZ (hw _ (List.mem_of_getElem? (i := 5) rfl))) (mvT hZ (hw _ (List.mem_of_getElem? (i := 6) rfl))) (mvT hZ (hw _ (List.mem_of_getElem? (i := 7) rfl))) (by decide) (backOf (W := 0) (rmH_3 l Z a0 hw [] b180 k180 (own_by (q0.toInt32)) (own_by (own_lu q0 (8 : Int32))) (own_by (own_lu q0 (16 : Int32))) h188 n0 Z188 V188) hZ (hw _ (List.mem_of_getElem? (i := 7) rfl)) (hw _ (List.mem_of_getElem? (i := 6) rfl)) (by decide) (by decide)) (g := (mkF m 386 #[.val (.long q0), .second, .val (.long q1), .second, .val (.int p2), .val (.int 3), .val (.ref b180), .val (.int (q0.toInt32)), .val (.int (own_lu q0 (32 : Int32))), .val (.int (q1.toInt32)), .val (.int 0), .val (.int 3), .val (.int (own_fin (((0 : Int32) ^^^ (own_scr ((q0.toInt32) &&& (16777215 : Int32)))) ^^^ (3 : Int32)))), .val (.int (q0.toInt32)), .val (.int (own_scr ((q0.toInt32) &&& (16777215 : Int32))))] [(.ref b180)])) rfl (by rw [hml]; rfl) (argsL := [(.ref b180)]) (rest := []) (lenOf pd_285bB29I rfl) rfl (by show 2 * 0 + _ ≤ _; exact Nat.le_of_eq rfl) (hb hby at_386) (fun _ _ => ⟨rfl, e188, (by decide : 1 + 0 ≤ _), (by decide : 3 + 0 ≤ _)⟩)
    dsimp only [Pt.U, Pt.locs, Pt.cells, Pt.slots] at X190 l190 y190 z190 st190 hQ190
    subst l190 y190 z190
    obtain ⟨rfl, N190q, e190⟩ := hQ190
    have N190 := Fr.app N188 N190q
    obtain ⟨fs, hr, hrun, hended, hW, hsame⟩ := X190.leave (v := some (.int 1)) (fun h => by rw [Bd.returns] at h; cases h)
    refine ⟨_, _, pre0 _ ?_, hrun, hended, _, _, rfl, ?_, ⟨_, rfl⟩, hW, hsame.mono (by decide) (by decide)⟩
    · refine G164 _ ?_
      rw [hn]
      refine own_iload X0.here hx (hb hby at_10) rfl ?_
      refine st180 _ ?_
      show Steps p.tables e below (T180.setTop (mkF m 14 #[.val (.long q0), .second, .val (.long q1), .second, .val (.int p2), .val (.int 3), .unset, .unset, .unset, .unset, .unset, .unset, .unset, .unset, .unset] [(.ref b180)])) _
      refine own_astore X180.here hx (hb hby at_14) rfl (l' := #[.val (.long q0), .second, .val (.long q1), .second, .val (.int p2), .val (.int 3), .val (.ref b180), .unset, .unset, .unset, .unset, .unset, .unset, .unset, .unset]) rfl ?_
      refine own_iload X180.here hx (hb hby at_16) rfl ?_
      refine own_ifNo X180.here hx (hb hby at_18) ((if0 _ _).trans (tlt (by decide : (0 : Int32) < (3 : Int32))).2.2.2) ?_
      refine own_aload X180.here hx (hb hby at_21) rfl rfl ?_
      refine own_iconst X180.here hx (0 : Int32) (hb hby at_23) rfl ?_
      refine own_lloadN X180.here hx (hb hby at_24) rfl ?_
      refine own_l2i X180.here hx (hb hby at_25) ?_
      refine own_i2b X180.here hx (hb hby at_26) ?_
      refine st182 _ ?_
      show Steps p.tables e below (T182.setTop (mkF m 28 #[.val (.long q0), .second, .val (.long q1), .second, .val (.int p2), .val (.int 3), .val (.ref b180), .unset, .unset, .unset, .unset, .unset, .unset, .unset, .unset] [])) _
      refine own_iload X182.here hx (hb hby at_28) rfl ?_
      refine own_iconst X182.here hx (1 : Int32) (hb hby at_30) rfl ?_
      refine own_icmpNo X182.here hx (hb hby at_31) (tlt (by decide : (1 : Int32) < (3 : Int32))).2.2.2 ?_
      refine own_aload X182.here hx (hb hby at_34) rfl rfl ?_
      refine own_iconst X182.here hx (1 : Int32) (hb hby at_36) rfl ?_
      refine own_lloadN X182.here hx (hb hby at_37) rfl ?_
      refine own_bipush X182.here hx (8 : Int32) (hb hby at_38) rfl ?_
      refine own_lushr X182.here hx (hb hby at_40) ?_
      refine own_l2i X182.here hx (hb hby at_41) ?_
      show Steps p.tables e below (T182.setTop (mkF m 42 #[.val (.long q0), .second, .val (.long q1), .second, .val (.int p2), .val (.int 3), .val (.ref b180), .unset, .unset, .unset, .unset, .unset, .unset, .unset, .unset] [(.int (own_lu q0 (8 : Int32))), (.int 1), (.ref b180)])) _
      refine own_i2b X182.here hx (hb hby at_42) ?_
      refine st185 _ ?_
      show Steps p.tables e below (T185.setTop (mkF m 44 #[.val (.long q0), .second, .val (.long q1), .second, .val (.int p2), .val (.int 3), .val (.ref b180), .unset, .unset, .unset, .unset, .unset, .unset, .unset, .unset] [])) _
      refine own_iload X185.here hx (hb hby at_44) rfl ?_
      refine own_iconst X185.here hx (2 : Int32) (hb hby at_46) rfl ?_
      refine own_icmpNo X185.here hx (hb hby at_47) (tlt (by decide : (2 : Int32) < (3 : Int32))).2.2.2 ?_
      refine own_aload X185.here hx (hb hby at_50) rfl rfl ?_
      refine own_iconst X185.here hx (2 : Int32) (hb hby at_52) rfl ?_
      refine own_lloadN X185.here hx (hb hby at_53) rfl ?_
      refine own_bipush X185.here hx (16 : Int32) (hb hby at_54) rfl ?_
      refine own_lushr X185.here hx (hb hby at_56) ?_
      refine own_l2i X185.here hx (hb hby at_57) ?_
      show Steps p.tables e below (T185.setTop (mkF m 58 #[.val (.long q0), .second, .val (.long q1), .second, .val (.int p2), .val (.int 3), .val (.ref b180), .unset, .unset, .unset, .unset, .unset, .unset, .unset, .unset] [(.int (own_lu q0 (16 : Int32))), (.int 2), (.ref b180)])) _
      refine own_i2b X185.here hx (hb hby at_58) ?_
      refine st188 _ ?_
      show Steps p.tables e below (T188.setTop (mkF m 60 #[.val (.long q0), .second, .val (.long q1), .second, .val (.int p2), .val (.int 3), .val (.ref b180), .unset, .unset, .unset, .unset, .unset, .unset, .unset, .unset] [])) _
      refine own_iload X188.here hx (hb hby at_60) rfl ?_
      refine own_iconst X188.here hx (3 : Int32) (hb hby at_62) rfl ?_
      refine own_icmpYes X188.here hx 63 76 rfl (hb hby at_63) (flt (by decide : ¬ ((3 : Int32) < (3 : Int32)))).2.2.2 (by decide) (by decide) ?_
      refine own_iload X188.here hx (hb hby at_76) rfl ?_
      refine own_iconst X188.here hx (4 : Int32) (hb hby at_78) rfl ?_
      refine own_icmpYes X188.here hx 79 92 rfl (hb hby at_79) (flt (by decide : ¬ ((4 : Int32) < (3 : Int32)))).2.2.2 (by decide) (by decide) ?_
      refine own_iload X188.here hx (hb hby at_92) rfl ?_
      refine own_iconst X188.here hx (5 : Int32) (hb hby at_94) rfl ?_
      refine own_icmpYes X188.here hx 95 108 rfl (hb hby at_95) (flt (by decide : ¬ ((5 : Int32) < (3 : Int32)))).2.2.2 (by decide) (by decide) ?_
      refine own_iload X188.here hx (hb hby at_108) rfl ?_
      refine own_bipush X188.here hx (6 : Int32) (hb hby at_110) rfl ?_
      refine own_icmpYes X188.here hx 112 126 rfl (hb hby at_112) (flt (by decide : ¬ ((6 : Int32) < (3 : Int32)))).2.2.2 (by decide) (by decide) ?_
      refine own_iload X188.here hx (hb hby at_126) rfl ?_
      refine own_bipush X188.here hx (7 : Int32) (hb hby at_128) rfl ?_
      refine own_icmpYes X188.here hx 130 144 rfl (hb hby at_130) (flt (by decide : ¬ ((7 : Int32) < (3 : Int32)))).2.2.2 (by decide) (by decide) ?_
      refine own_iload X188.here hx (hb hby at_144) rfl ?_
      refine own_bipush X188.here hx (8 : Int32) (hb hby at_146) rfl ?_
      refine own_icmpYes X188.here hx 148 159 rfl (hb hby at_148) (flt (by decide : ¬ ((8 : Int32) < (3 : Int32)))).2.2.2 (by decide) (by decide) ?_
      refine own_iload X188.here hx (hb hby at_159) rfl ?_
      refine own_bipush X188.here hx (9 : Int32) (hb hby at_161) rfl ?_
      refine own_icmpYes X188.here hx 163 177 rfl (hb hby at_163) (flt (by decide : ¬ ((9 : Int32) < (3 : Int32)))).2.2.2 (by decide) (by decide) ?_
      refine own_iload X188.here hx (hb hby at_177) rfl ?_
      refine own_bipush X188.here hx (10 : Int32) (hb hby at_179) rfl ?_
      refine own_icmpYes X188.here hx 181 195 rfl (hb hby at_181) (flt (by decide : ¬ ((10 : Int32) < (3 : Int32)))).2.2.2 (by decide) (by decide) ?_
      refine own_lloadN X188.here hx (hb hby at_195) rfl ?_
      refine own_l2i X188.here hx (hb hby at_196) ?_
      refine own_istore X188.here hx (hb hby at_197) (l' := #[.val (.long q0), .second, .val (.long q1), .second, .val (.int p2), .val (.int 3), .val (.ref b180), .val (.int (q0.toInt32)), .unset, .unset, .unset, .unset, .unset, .unset, .unset]) rfl ?_
      refine own_lloadN X188.here hx (hb hby at_199) rfl ?_
      refine own_bipush X188.here hx (32 : Int32) (hb hby at_200) rfl ?_
      refine own_lushr X188.here hx (hb hby at_202) ?_
      refine own_l2i X188.here hx (hb hby at_203) ?_
      show Steps p.tables e below (T188.setTop (mkF m 204 #[.val (.long q0), .second, .val (.long q1), .second, .val (.int p2), .val (.int 3), .val (.ref b180), .val (.int (q0.toInt32)), .unset, .unset, .unset, .unset, .unset, .unset, .unset] [(.int (own_lu q0 (32 : Int32)))])) _
      refine own_istore X188.here hx (hb hby at_204) (l' := #[.val (.long q0), .second, .val (.long q1), .second, .val (.int p2), .val (.int 3), .val (.ref b180), .val (.int (q0.toInt32)), .val (.int (own_lu q0 (32 : Int32))), .unset, .unset, .unset, .unset, .unset, .unset]) rfl ?_
      refine own_lloadN X188.here hx (hb hby at_206) rfl ?_
      refine own_l2i X188.here hx (hb hby at_207) ?_
      refine own_istore X188.here hx (hb hby at_208) (l' := #[.val (.long q0), .second, .val (.long q1), .second, .val (.int p2), .val (.int 3), .val (.ref b180), .val (.int (q0.toInt32)), .val (.int (own_lu q0 (32 : Int32))), .val (.int (q1.toInt32)), .unset, .unset, .unset, .unset, .unset]) rfl ?_
      refine own_iload X188.here hx (hb hby at_210) rfl ?_
      refine own_iconst X188.here hx (4 : Int32) (hb hby at_212) rfl ?_
      refine own_idiv X188.here hx (hb hby at_213) (by decide) ?_
      show Steps p.tables e below (T188.setTop (mkF m 214 #[.val (.long q0), .second, .val (.long q1), .second, .val (.int p2), .val (.int 3), .val (.ref b180), .val (.int (q0.toInt32)), .val (.int (own_lu q0 (32 : Int32))), .val (.int (q1.toInt32)), .unset, .unset, .unset, .unset, .unset] [(.int 0)])) _
      refine own_istore X188.here hx (hb hby at_214) (l' := #[.val (.long q0), .second, .val (.long q1), .second, .val (.int p2), .val (.int 3), .val (.ref b180), .val (.int (q0.toInt32)), .val (.int (own_lu q0 (32 : Int32))), .val (.int (q1.toInt32)), .val (.int 0), .unset, .unset, .unset, .unset]) rfl ?_
      refine own_iload X188.here hx (hb hby at_216) rfl ?_
      refine own_iconst X188.here hx (4 : Int32) (hb hby at_218) rfl ?_
      refine own_irem X188.here hx (hb hby at_219) (by decide) ?_
      show Steps p.tables e below (T188.setTop (mkF m 220 #[.val (.long q0), .second, .val (.long q1), .second, .val (.int p2), .val (.int 3), .val (.ref b180), .val (.int (q0.toInt32)), .val (.int (own_lu q0 (32 : Int32))), .val (.int (q1.toInt32)), .val (.int 0), .unset, .unset, .unset, .unset] [(.int 3)])) _
      refine own_istore X188.here hx (hb hby at_220) (l' := #[.val (.long q0), .second, .val (.long q1), .second, .val (.int p2), .val (.int 3), .val (.ref b180), .val (.int (q0.toInt32)), .val (.int (own_lu q0 (32 : Int32))), .val (.int (q1.toInt32)), .val (.int 0), .val (.int 3), .unset, .unset, .unset]) rfl ?_
      refine own_iconst X188.here hx (0 : Int32) (hb hby at_222) rfl ?_
      refine own_istore X188.here hx (hb hby at_223) (l' := #[.val (.long q0), .second, .val (.long q1), .second, .val (.int p2), .val (.int 3), .val (.ref b180), .val (.int (q0.toInt32)), .val (.int (own_lu q0 (32 : Int32))), .val (.int (q1.toInt32)), .val (.int 0), .val (.int 3), .val (.int 0), .unset, .unset]) rfl ?_
      refine own_iload X188.here hx (hb hby at_225) rfl ?_
      refine own_iconst X188.here hx (1 : Int32) (hb hby at_227) rfl ?_
      refine own_icmpYes X188.here hx 228 240 rfl (hb hby at_228) (tlt (by decide : (0 : Int32) < (1 : Int32))).1 (by decide) (by decide) ?_
      refine own_iload X188.here hx (hb hby at_240) rfl ?_
      refine own_iconst X188.here hx (2 : Int32) (hb hby at_242) rfl ?_
      refine own_icmpYes X188.here hx 243 255 rfl (hb hby at_243) (tlt (by decide : (0 : Int32) < (2 : Int32))).1 (by decide) (by decide) ?_
      refine own_iload X188.here hx (hb hby at_255) rfl ?_
      refine own_ifNo X188.here hx (hb hby at_257) ((if0 _ _).trans (teq (by decide : (0 : Int32) = (0 : Int32))).2) ?_
      refine own_iload X188.here hx (hb hby at_260) rfl ?_
      refine own_goto X188.here hx 262 278 rfl (hb hby at_262) (by decide) (by decide) ?_
      refine own_istore X188.here hx (hb hby at_278) (l' := #[.val (.long q0), .second, .val (.long q1), .second, .val (.int p2), .val (.int 3), .val (.ref b180), .val (.int (q0.toInt32)), .val (.int (own_lu q0 (32 : Int32))), .val (.int (q1.toInt32)), .val (.int 0), .val (.int 3), .val (.int 0), .val (.int (q0.toInt32)), .unset]) rfl ?_
      refine own_iload X188.here hx (hb hby at_280) rfl ?_
      refine own_ifNo X188.here hx (hb hby at_282) ((if0 _ _).trans (tlt (by decide : (0 : Int32) < (3 : Int32))).2.2.2) ?_
      refine own_iload X188.here hx (hb hby at_285) rfl ?_
      refine own_iconst X188.here hx (1 : Int32) (hb hby at_287) rfl ?_
      refine own_bipush X188.here hx (8 : Int32) (hb hby at_288) rfl ?_
      refine own_iload X188.here hx (hb hby at_290) rfl ?_
      refine own_imul X188.here hx (hb hby at_292) ?_
      show Steps p.tables e below (T188.setTop (mkF m 293 #[.val (.long q0), .second, .val (.long q1), .second, .val (.int p2), .val (.int 3), .val (.ref b180), .val (.int (q0.toInt32)), .val (.int (own_lu q0 (32 : Int32))), .val (.int (q1.toInt32)), .val (.int 0), .val (.int 3), .val (.int 0), .val (.int (q0.toInt32)), .unset] [(.int 24), (.int 1), (.int (q0.toInt32))])) _
      refine own_ishl X188.here hx (hb hby at_293) ?_
      show Steps p.tables e below (T188.setTop (mkF m 294 #[.val (.long q0), .second, .val (.long q1), .second, .val (.int p2), .val (.int 3), .val (.ref b180), .val (.int (q0.toInt32)), .val (.int (own_lu q0 (32 : Int32))), .val (.int (q1.toInt32)), .val (.int 0), .val (.int 3), .val (.int 0), .val (.int (q0.toInt32)), .unset] [(.int 16777216), (.int (q0.toInt32))])) _
      refine own_iconst X188.here hx (1 : Int32) (hb hby at_294) rfl ?_
      refine own_isub X188.here hx (hb hby at_295) ?_
      show Steps p.tables e below (T188.setTop (mkF m 296 #[.val (.long q0), .second, .val (.long q1), .second, .val (.int p2), .val (.int 3), .val (.ref b180), .val (.int (q0.toInt32)), .val (.int (own_lu q0 (32 : Int32))), .val (.int (q1.toInt32)), .val (.int 0), .val (.int 3), .val (.int 0), .val (.int (q0.toInt32)), .unset] [(.int 16777215), (.int (q0.toInt32))])) _
      refine own_iand X188.here hx (hb hby at_296) ?_
      show Steps p.tables e below (T188.setTop (mkF m 297 #[.val (.long q0), .second, .val (.long q1), .second, .val (.int p2), .val (.int 3), .val (.ref b180), .val (.int (q0.toInt32)), .val (.int (own_lu q0 (32 : Int32))), .val (.int (q1.toInt32)), .val (.int 0), .val (.int 3), .val (.int 0), .val (.int (q0.toInt32)), .unset] [(.int ((q0.toInt32) &&& (16777215 : Int32)))])) _
      refine own_istore X188.here hx (hb hby at_297) (l' := #[.val (.long q0), .second, .val (.long q1), .second, .val (.int p2), .val (.int 3), .val (.ref b180), .val (.int (q0.toInt32)), .val (.int (own_lu q0 (32 : Int32))), .val (.int (q1.toInt32)), .val (.int 0), .val (.int 3), .val (.int 0), .val (.int (q0.toInt32)), .val (.int ((q0.toInt32) &&& (16777215 : Int32)))]) rfl ?_
      refine own_iload X188.here hx (hb hby at_299) rfl ?_
      refine X188.ldcInt hx hown (mvT hZ (hw _ (List.mem_of_getElem? (i := 26) rfl))) (g := (mkF m 301 #[.val (.long q0), .second, .val (.long q1), .second, .val (.int p2), .val (.int 3), .val (.ref b180), .val (.int (q0.toInt32)), .val (.int (own_lu q0 (32 : Int32))), .val (.int (q1.toInt32)), .val (.int 0), .val (.int 3), .val (.int 0), .val (.int (q0.toInt32)), .val (.int ((q0.toInt32) &&& (16777215 : Int32)))] [(.int ((q0.toInt32) &&& (16777215 : Int32)))])) rfl (hb hby at_301) _ ?_
      show Steps p.tables e below (T188.setTop (mkF m 303 #[.val (.long q0), .second, .val (.long q1), .second, .val (.int p2), .val (.int 3), .val (.ref b180), .val (.int (q0.toInt32)), .val (.int (own_lu q0 (32 : Int32))), .val (.int (q1.toInt32)), .val (.int 0), .val (.int 3), .val (.int 0), .val (.int (q0.toInt32)), .val (.int ((q0.toInt32) &&& (16777215 : Int32)))] [(.int (-862048943)), (.int ((q0.toInt32) &&& (16777215 : Int32)))])) _
      refine own_imul X188.here hx (hb hby at_303) ?_
      refine own_istore X188.here hx (hb hby at_304) (l' := #[.val (.long q0), .second, .val (.long q1), .second, .val (.int p2), .val (.int 3), .val (.ref b180), .val (.int (q0.toInt32)), .val (.int (own_lu q0 (32 : Int32))), .val (.int (q1.toInt32)), .val (.int 0), .val (.int 3), .val (.int 0), .val (.int (q0.toInt32)), .val (.int (((q0.toInt32) &&& (16777215 : Int32)) * (-862048943 : Int32)))]) rfl ?_
      refine own_iload X188.here hx (hb hby at_306) rfl ?_
      refine own_bipush X188.here hx (15 : Int32) (hb hby at_308) rfl ?_
      refine own_ishl X188.here hx (hb hby at_310) ?_
      refine own_iload X188.here hx (hb hby at_311) rfl ?_
      refine own_bipush X188.here hx (17 : Int32) (hb hby at_313) rfl ?_
      refine own_iushr X188.here hx (hb hby at_315) ?_
      refine own_ior X188.here hx (hb hby at_316) ?_
      show Steps p.tables e below (T188.setTop (mkF m 317 #[.val (.long q0), .second, .val (.long q1), .second, .val (.int p2), .val (.int 3), .val (.ref b180), .val (.int (q0.toInt32)), .val (.int (own_lu q0 (32 : Int32))), .val (.int (q1.toInt32)), .val (.int 0), .val (.int 3), .val (.int 0), .val (.int (q0.toInt32)), .val (.int (((q0.toInt32) &&& (16777215 : Int32)) * (-862048943 : Int32)))] [(.int (own_rotl (((q0.toInt32) &&& (16777215 : Int32)) * (-862048943 : Int32)) (15 : Int32)))])) _
      refine own_istore X188.here hx (hb hby at_317) (l' := #[.val (.long q0), .second, .val (.long q1), .second, .val (.int p2), .val (.int 3), .val (.ref b180), .val (.int (q0.toInt32)), .val (.int (own_lu q0 (32 : Int32))), .val (.int (q1.toInt32)), .val (.int 0), .val (.int 3), .val (.int 0), .val (.int (q0.toInt32)), .val (.int (own_rotl (((q0.toInt32) &&& (16777215 : Int32)) * (-862048943 : Int32)) (15 : Int32)))]) rfl ?_
      refine own_iload X188.here hx (hb hby at_319) rfl ?_
      refine X188.ldcInt hx hown (mvT hZ (hw _ (List.mem_of_getElem? (i := 27) rfl))) (g := (mkF m 321 #[.val (.long q0), .second, .val (.long q1), .second, .val (.int p2), .val (.int 3), .val (.ref b180), .val (.int (q0.toInt32)), .val (.int (own_lu q0 (32 : Int32))), .val (.int (q1.toInt32)), .val (.int 0), .val (.int 3), .val (.int 0), .val (.int (q0.toInt32)), .val (.int (own_rotl (((q0.toInt32) &&& (16777215 : Int32)) * (-862048943 : Int32)) (15 : Int32)))] [(.int (own_rotl (((q0.toInt32) &&& (16777215 : Int32)) * (-862048943 : Int32)) (15 : Int32)))])) rfl (hb hby at_321) _ ?_
      show Steps p.tables e below (T188.setTop (mkF m 323 #[.val (.long q0), .second, .val (.long q1), .second, .val (.int p2), .val (.int 3), .val (.ref b180), .val (.int (q0.toInt32)), .val (.int (own_lu q0 (32 : Int32))), .val (.int (q1.toInt32)), .val (.int 0), .val (.int 3), .val (.int 0), .val (.int (q0.toInt32)), .val (.int (own_rotl (((q0.toInt32) &&& (16777215 : Int32)) * (-862048943 : Int32)) (15 : Int32)))] [(.int 461845907), (.int (own_rotl (((q0.toInt32) &&& (16777215 : Int32)) * (-862048943 : Int32)) (15 : Int32)))])) _
      refine own_imul X188.here hx (hb hby at_323) ?_
      show Steps p.tables e below (T188.setTop (mkF m 324 #[.val (.long q0), .second, .val (.long q1), .second, .val (.int p2), .val (.int 3), .val (.ref b180), .val (.int (q0.toInt32)), .val (.int (own_lu q0 (32 : Int32))), .val (.int (q1.toInt32)), .val (.int 0), .val (.int 3), .val (.int 0), .val (.int (q0.toInt32)), .val (.int (own_rotl (((q0.toInt32) &&& (16777215 : Int32)) * (-862048943 : Int32)) (15 : Int32)))] [(.int (own_scr ((q0.toInt32) &&& (16777215 : Int32))))])) _
      refine own_istore X188.here hx (hb hby at_324) (l' := #[.val (.long q0), .second, .val (.long q1), .second, .val (.int p2), .val (.int 3), .val (.ref b180), .val (.int (q0.toInt32)), .val (.int (own_lu q0 (32 : Int32))), .val (.int (q1.toInt32)), .val (.int 0), .val (.int 3), .val (.int 0), .val (.int (q0.toInt32)), .val (.int (own_scr ((q0.toInt32) &&& (16777215 : Int32))))]) rfl ?_
      refine own_iload X188.here hx (hb hby at_326) rfl ?_
      refine own_iload X188.here hx (hb hby at_328) rfl ?_
      refine own_ixor X188.here hx (hb hby at_330) ?_
      refine own_istore X188.here hx (hb hby at_331) (l' := #[.val (.long q0), .second, .val (.long q1), .second, .val (.int p2), .val (.int 3), .val (.ref b180), .val (.int (q0.toInt32)), .val (.int (own_lu q0 (32 : Int32))), .val (.int (q1.toInt32)), .val (.int 0), .val (.int 3), .val (.int ((0 : Int32) ^^^ (own_scr ((q0.toInt32) &&& (16777215 : Int32))))), .val (.int (q0.toInt32)), .val (.int (own_scr ((q0.toInt32) &&& (16777215 : Int32))))]) rfl ?_
      refine own_iload X188.here hx (hb hby at_333) rfl ?_
      refine own_iload X188.here hx (hb hby at_335) rfl ?_
      refine own_ixor X188.here hx (hb hby at_337) ?_
      refine own_istore X188.here hx (hb hby at_338) (l' := #[.val (.long q0), .second, .val (.long q1), .second, .val (.int p2), .val (.int 3), .val (.ref b180), .val (.int (q0.toInt32)), .val (.int (own_lu q0 (32 : Int32))), .val (.int (q1.toInt32)), .val (.int 0), .val (.int 3), .val (.int (((0 : Int32) ^^^ (own_scr ((q0.toInt32) &&& (16777215 : Int32)))) ^^^ (3 : Int32))), .val (.int (q0.toInt32)), .val (.int (own_scr ((q0.toInt32) &&& (16777215 : Int32))))]) rfl ?_
      refine own_iload X188.here hx (hb hby at_340) rfl ?_
      refine own_iload X188.here hx (hb hby at_342) rfl ?_
      refine own_bipush X188.here hx (16 : Int32) (hb hby at_344) rfl ?_
      refine own_iushr X188.here hx (hb hby at_346) ?_
      refine own_ixor X188.here hx (hb hby at_347) ?_
      show Steps p.tables e below (T188.setTop (mkF m 348 #[.val (.long q0), .second, .val (.long q1), .second, .val (.int p2), .val (.int 3), .val (.ref b180), .val (.int (q0.toInt32)), .val (.int (own_lu q0 (32 : Int32))), .val (.int (q1.toInt32)), .val (.int 0), .val (.int 3), .val (.int (((0 : Int32) ^^^ (own_scr ((q0.toInt32) &&& (16777215 : Int32)))) ^^^ (3 : Int32))), .val (.int (q0.toInt32)), .val (.int (own_scr ((q0.toInt32) &&& (16777215 : Int32))))] [(.int (own_x16 (((0 : Int32) ^^^ (own_scr ((q0.toInt32) &&& (16777215 : Int32)))) ^^^ (3 : Int32))))])) _
      refine own_istore X188.here hx (hb hby at_348) (l' := #[.val (.long q0), .second, .val (.long q1), .second, .val (.int p2), .val (.int 3), .val (.ref b180), .val (.int (q0.toInt32)), .val (.int (own_lu q0 (32 : Int32))), .val (.int (q1.toInt32)), .val (.int 0), .val (.int 3), .val (.int (own_x16 (((0 : Int32) ^^^ (own_scr ((q0.toInt32) &&& (16777215 : Int32)))) ^^^ (3 : Int32)))), .val (.int (q0.toInt32)), .val (.int (own_scr ((q0.toInt32) &&& (16777215 : Int32))))]) rfl ?_
      refine own_iload X188.here hx (hb hby at_350) rfl ?_
      refine X188.ldcInt hx hown (mvT hZ (hw _ (List.mem_of_getElem? (i := 2) rfl))) (g := (mkF m 352 #[.val (.long q0), .second, .val (.long q1), .second, .val (.int p2), .val (.int 3), .val (.ref b180), .val (.int (q0.toInt32)), .val (.int (own_lu q0 (32 : Int32))), .val (.int (q1.toInt32)), .val (.int 0), .val (.int 3), .val (.int (own_x16 (((0 : Int32) ^^^ (own_scr ((q0.toInt32) &&& (16777215 : Int32)))) ^^^ (3 : Int32)))), .val (.int (q0.toInt32)), .val (.int (own_scr ((q0.toInt32) &&& (16777215 : Int32))))] [(.int (own_x16 (((0 : Int32) ^^^ (own_scr ((q0.toInt32) &&& (16777215 : Int32)))) ^^^ (3 : Int32))))])) rfl (hb hby at_352) _ ?_
      show Steps p.tables e below (T188.setTop (mkF m 354 #[.val (.long q0), .second, .val (.long q1), .second, .val (.int p2), .val (.int 3), .val (.ref b180), .val (.int (q0.toInt32)), .val (.int (own_lu q0 (32 : Int32))), .val (.int (q1.toInt32)), .val (.int 0), .val (.int 3), .val (.int (own_x16 (((0 : Int32) ^^^ (own_scr ((q0.toInt32) &&& (16777215 : Int32)))) ^^^ (3 : Int32)))), .val (.int (q0.toInt32)), .val (.int (own_scr ((q0.toInt32) &&& (16777215 : Int32))))] [(.int (-2048144789)), (.int (own_x16 (((0 : Int32) ^^^ (own_scr ((q0.toInt32) &&& (16777215 : Int32)))) ^^^ (3 : Int32))))])) _
      refine own_imul X188.here hx (hb hby at_354) ?_
      refine own_istore X188.here hx (hb hby at_355) (l' := #[.val (.long q0), .second, .val (.long q1), .second, .val (.int p2), .val (.int 3), .val (.ref b180), .val (.int (q0.toInt32)), .val (.int (own_lu q0 (32 : Int32))), .val (.int (q1.toInt32)), .val (.int 0), .val (.int 3), .val (.int ((own_x16 (((0 : Int32) ^^^ (own_scr ((q0.toInt32) &&& (16777215 : Int32)))) ^^^ (3 : Int32))) * (-2048144789 : Int32))), .val (.int (q0.toInt32)), .val (.int (own_scr ((q0.toInt32) &&& (16777215 : Int32))))]) rfl ?_
      refine own_iload X188.here hx (hb hby at_357) rfl ?_
      refine own_iload X188.here hx (hb hby at_359) rfl ?_
      refine own_bipush X188.here hx (13 : Int32) (hb hby at_361) rfl ?_
      refine own_iushr X188.here hx (hb hby at_363) ?_
      refine own_ixor X188.here hx (hb hby at_364) ?_
      show Steps p.tables e below (T188.setTop (mkF m 365 #[.val (.long q0), .second, .val (.long q1), .second, .val (.int p2), .val (.int 3), .val (.ref b180), .val (.int (q0.toInt32)), .val (.int (own_lu q0 (32 : Int32))), .val (.int (q1.toInt32)), .val (.int 0), .val (.int 3), .val (.int ((own_x16 (((0 : Int32) ^^^ (own_scr ((q0.toInt32) &&& (16777215 : Int32)))) ^^^ (3 : Int32))) * (-2048144789 : Int32))), .val (.int (q0.toInt32)), .val (.int (own_scr ((q0.toInt32) &&& (16777215 : Int32))))] [(.int (own_x13 ((own_x16 (((0 : Int32) ^^^ (own_scr ((q0.toInt32) &&& (16777215 : Int32)))) ^^^ (3 : Int32))) * (-2048144789 : Int32))))])) _
      refine own_istore X188.here hx (hb hby at_365) (l' := #[.val (.long q0), .second, .val (.long q1), .second, .val (.int p2), .val (.int 3), .val (.ref b180), .val (.int (q0.toInt32)), .val (.int (own_lu q0 (32 : Int32))), .val (.int (q1.toInt32)), .val (.int 0), .val (.int 3), .val (.int (own_x13 ((own_x16 (((0 : Int32) ^^^ (own_scr ((q0.toInt32) &&& (16777215 : Int32)))) ^^^ (3 : Int32))) * (-2048144789 : Int32)))), .val (.int (q0.toInt32)), .val (.int (own_scr ((q0.toInt32) &&& (16777215 : Int32))))]) rfl ?_
      refine own_iload X188.here hx (hb hby at_367) rfl ?_
      refine X188.ldcInt hx hown (mvT hZ (hw _ (List.mem_of_getElem? (i := 3) rfl))) (g := (mkF m 369 #[.val (.long q0), .second, .val (.long q1), .second, .val (.int p2), .val (.int 3), .val (.ref b180), .val (.int (q0.toInt32)), .val (.int (own_lu q0 (32 : Int32))), .val (.int (q1.toInt32)), .val (.int 0), .val (.int 3), .val (.int (own_x13 ((own_x16 (((0 : Int32) ^^^ (own_scr ((q0.toInt32) &&& (16777215 : Int32)))) ^^^ (3 : Int32))) * (-2048144789 : Int32)))), .val (.int (q0.toInt32)), .val (.int (own_scr ((q0.toInt32) &&& (16777215 : Int32))))] [(.int (own_x13 ((own_x16 (((0 : Int32) ^^^ (own_scr ((q0.toInt32) &&& (16777215 : Int32)))) ^^^ (3 : Int32))) * (-2048144789 : Int32))))])) rfl (hb hby at_369) _ ?_
      show Steps p.tables e below (T188.setTop (mkF m 371 #[.val (.long q0), .second, .val (.long q1), .second, .val (.int p2), .val (.int 3), .val (.ref b180), .val (.int (q0.toInt32)), .val (.int (own_lu q0 (32 : Int32))), .val (.int (q1.toInt32)), .val (.int 0), .val (.int 3), .val (.int (own_x13 ((own_x16 (((0 : Int32) ^^^ (own_scr ((q0.toInt32) &&& (16777215 : Int32)))) ^^^ (3 : Int32))) * (-2048144789 : Int32)))), .val (.int (q0.toInt32)), .val (.int (own_scr ((q0.toInt32) &&& (16777215 : Int32))))] [(.int (-1028477387)), (.int (own_x13 ((own_x16 (((0 : Int32) ^^^ (own_scr ((q0.toInt32) &&& (16777215 : Int32)))) ^^^ (3 : Int32))) * (-2048144789 : Int32))))])) _
      refine own_imul X188.here hx (hb hby at_371) ?_
      refine own_istore X188.here hx (hb hby at_372) (l' := #[.val (.long q0), .second, .val (.long q1), .second, .val (.int p2), .val (.int 3), .val (.ref b180), .val (.int (q0.toInt32)), .val (.int (own_lu q0 (32 : Int32))), .val (.int (q1.toInt32)), .val (.int 0), .val (.int 3), .val (.int ((own_x13 ((own_x16 (((0 : Int32) ^^^ (own_scr ((q0.toInt32) &&& (16777215 : Int32)))) ^^^ (3 : Int32))) * (-2048144789 : Int32))) * (-1028477387 : Int32))), .val (.int (q0.toInt32)), .val (.int (own_scr ((q0.toInt32) &&& (16777215 : Int32))))]) rfl ?_
      refine own_iload X188.here hx (hb hby at_374) rfl ?_
      refine own_iload X188.here hx (hb hby at_376) rfl ?_
      refine own_bipush X188.here hx (16 : Int32) (hb hby at_378) rfl ?_
      refine own_iushr X188.here hx (hb hby at_380) ?_
      refine own_ixor X188.here hx (hb hby at_381) ?_
      show Steps p.tables e below (T188.setTop (mkF m 382 #[.val (.long q0), .second, .val (.long q1), .second, .val (.int p2), .val (.int 3), .val (.ref b180), .val (.int (q0.toInt32)), .val (.int (own_lu q0 (32 : Int32))), .val (.int (q1.toInt32)), .val (.int 0), .val (.int 3), .val (.int ((own_x13 ((own_x16 (((0 : Int32) ^^^ (own_scr ((q0.toInt32) &&& (16777215 : Int32)))) ^^^ (3 : Int32))) * (-2048144789 : Int32))) * (-1028477387 : Int32))), .val (.int (q0.toInt32)), .val (.int (own_scr ((q0.toInt32) &&& (16777215 : Int32))))] [(.int (own_fin (((0 : Int32) ^^^ (own_scr ((q0.toInt32) &&& (16777215 : Int32)))) ^^^ (3 : Int32))))])) _
      refine own_istore X188.here hx (hb hby at_382) (l' := #[.val (.long q0), .second, .val (.long q1), .second, .val (.int p2), .val (.int 3), .val (.ref b180), .val (.int (q0.toInt32)), .val (.int (own_lu q0 (32 : Int32))), .val (.int (q1.toInt32)), .val (.int 0), .val (.int 3), .val (.int (own_fin (((0 : Int32) ^^^ (own_scr ((q0.toInt32) &&& (16777215 : Int32)))) ^^^ (3 : Int32)))), .val (.int (q0.toInt32)), .val (.int (own_scr ((q0.toInt32) &&& (16777215 : Int32))))]) rfl ?_
      refine own_aload X188.here hx (hb hby at_384) rfl rfl ?_
      refine st190 _ ?_
      show Steps p.tables e below (T190.setTop (mkF m 389 #[.val (.long q0), .second, .val (.long q1), .second, .val (.int p2), .val (.int 3), .val (.ref b180), .val (.int (q0.toInt32)), .val (.int (own_lu q0 (32 : Int32))), .val (.int (q1.toInt32)), .val (.int 0), .val (.int 3), .val (.int (own_fin (((0 : Int32) ^^^ (own_scr ((q0.toInt32) &&& (16777215 : Int32)))) ^^^ (3 : Int32)))), .val (.int (q0.toInt32)), .val (.int (own_scr ((q0.toInt32) &&& (16777215 : Int32))))] [(.int (own_fin (((0 : Int32) ^^^ (own_scr (own_t3 (own_by (q0.toInt32)) (own_by (own_lu q0 (8 : Int32))) (own_by (own_lu q0 (16 : Int32)))))) ^^^ (3 : Int32))))])) _
      refine own_iload X190.here hx (hb hby at_389) rfl ?_
      refine own_icmpNo X190.here hx (hb hby at_391) (teq (by first | decide +kernel | simp only [own_blk0, own_blk1, own_t1e, own_t20, own_t21, own_t30, own_t31, own_scr0, Int32.xor_zero] : (own_fin (((0 : Int32) ^^^ (own_scr (own_t3 (own_by (q0.toInt32)) (own_by (own_lu q0 (8 : Int32))) (own_by (own_lu q0 (16 : Int32)))))) ^^^ (3 : Int32))) = (own_fin (((0 : Int32) ^^^ (own_scr ((q0.toInt32) &&& (16777215 : Int32)))) ^^^ (3 : Int32))))).2 ?_
      refine own_iconst X190.here hx (1 : Int32) (hb hby at_394) rfl ?_
      refine own_goto X190.here hx 395 399 rfl (hb hby at_395) (by decide) (by decide) ?_
      exact retN X190 hx (t := .boolean) Bd.returns (by simp) (hb hby at_399) hr
    · show Q0 Z q0 q1 p2 h0 n0 _ T190.heap _
      rw [e190]
      exact ⟨rfl, N190⟩
  · obtain ⟨T191, h191, k191, X191, e191, E191, A191, st191⟩ := newP X0 hx hZ (hw _ (List.mem_of_getElem? (i := 1) rfl)) e0 (g := (mkF m 12 #[.val (.long q0), .second, .val (.long q1), .second, .val (.int p2), .val (.int 4), .unset, .unset, .unset, .unset, .unset, .unset, .unset, .unset, .unset] [(.int 4)])) rfl (hb hby at_12) rfl (by decide) (cap := 4) (by decide) (by decide) (by decide) (by decide)
    obtain ⟨b191, g191⟩ : ∃ z, z = h0.size := ⟨_, rfl⟩
    rw [← g191] at A191 st191
    have E191' := E191
    have gg191 : n0 ≤ b191 := Nat.le_trans Z0 (Nat.le_of_eq g191.symm)
    have Z191 : n0 ≤ h191.size := Nat.le_trans Z0 E191.1
    have V191 : Arv Z h191 b191 k191 .byte (4 : Int32) [(.int 0), (.int 0), (.int 0), (.int 0)] (.int 0) := (Arv.new A191 (by decide)).pad (pad_rep [] (.int 0) 4)
    obtain ⟨cl192, Ar192, q192, S192, M192, H192, J192⟩ := id V191
    have hin192 : ¬ ((0 : Int32) < 0 ∨ cl192.slots.size ≤ ((0 : Int32)).toNatClampNeg) := inb_of S192 ⟨by decide, by decide⟩
    obtain ⟨T193, h193, X193, e193, W193, st193⟩ := stB X191 hx hZ e191 Ar192 (j := (0 : Int32)) hin192 (g := (mkF m 27 #[.val (.long q0), .second, .val (.long q1), .second, .val (.int p2), .val (.int 4), .val (.ref b191), .unset, .unset, .unset, .unset, .unset, .unset, .unset, .unset] [(.int ((q0.toInt32).toInt8.toInt32)), (.int 0), (.ref b191)])) rfl rfl (hb hby at_27)
    have V193 : Arv Z h193 b191 k191 .byte (4 : Int32) [(.int (own_by (q0.toInt32))), (.int 0), (.int 0), (.int 0)] (.int 0) := Arv.set Ar192 q192 S192 M192 H192 J192 (fits_nar_byte _) W193 0 rfl (Nat.le_of_ble_eq_true rfl)
    have N193 := Fr.snoc X193 N0 gg191
    have Z193 : n0 ≤ h193.size := Nat.le_trans Z191 (Keep.of_wr W193).1
    obtain ⟨cl195, Ar195, q195, S195, M195, H195, J195⟩ := id V193
    have hin195 : ¬ ((1 : Int32) < 0 ∨ cl195.slots.size ≤ ((1 : Int32)).toNatClampNeg) := inb_of S195 ⟨by decide, by decide⟩
    obtain ⟨T196, h196, X196, e196, W196, st196⟩ := stB X193 hx hZ e193 Ar195 (j := (1 : Int32)) hin195 (g := (mkF m 43 #[.val (.long q0), .second, .val (.long q1), .second, .val (.int p2), .val (.int 4), .val (.ref b191), .unset, .unset, .unset, .unset, .unset, .unset, .unset, .unset] [(.int ((own_lu q0 (8 : Int32)).toInt8.toInt32)), (.int 1), (.ref b191)])) rfl rfl (hb hby at_43)
    have V196 : Arv Z h196 b191 k191 .byte (4 : Int32) [(.int (own_by (q0.toInt32))), (.int (own_by (own_lu q0 (8 : Int32)))), (.int 0), (.int 0)] (.int 0) := Arv.set Ar195 q195 S195 M195 H195 J195 (fits_nar_byte _) W196 1 rfl (Nat.le_of_ble_eq_true rfl)
    have N196 := Fr.snoc X196 N193 gg191
    have Z196 : n0 ≤ h196.size := Nat.le_trans Z193 (Keep.of_wr W196).1
    obtain ⟨cl198, Ar198, q198, S198, M198, H198, J198⟩ := id V196
    have hin198 : ¬ ((2 : Int32) < 0 ∨ cl198.slots.size ≤ ((2 : Int32)).toNatClampNeg) := inb_of S198 ⟨by decide, by decide⟩
    obtain ⟨T199, h199, X199, e199, W199, st199⟩ := stB X196 hx hZ e196 Ar198 (j := (2 : Int32)) hin198 (g := (mkF m 59 #[.val (.long q0), .second, .val (.long q1), .second, .val (.int p2), .val (.int 4), .val (.ref b191), .unset, .unset, .unset, .unset, .unset, .unset, .unset, .unset] [(.int ((own_lu q0 (16 : Int32)).toInt8.toInt32)), (.int 2), (.ref b191)])) rfl rfl (hb hby at_59)
    have V199 : Arv Z h199 b191 k191 .byte (4 : Int32) [(.int (own_by (q0.toInt32))), (.int (own_by (own_lu q0 (8 : Int32)))), (.int (own_by (own_lu q0 (16 : Int32)))), (.int 0)] (.int 0) := Arv.set Ar198 q198 S198 M198 H198 J198 (fits_nar_byte _) W199 2 rfl (Nat.le_of_ble_eq_true rfl)
    have N199 := Fr.snoc X199 N196 gg191
    have Z199 : n0 ≤ h199.size := Nat.le_trans Z196 (Keep.of_wr W199).1
    obtain ⟨cl201, Ar201, q201, S201, M201, H201, J201⟩ := id V199
    have hin201 : ¬ ((3 : Int32) < 0 ∨ cl201.slots.size ≤ ((3 : Int32)).toNatClampNeg) := inb_of S201 ⟨by decide, by decide⟩
    obtain ⟨T202, h202, X202, e202, W202, st202⟩ := stB X199 hx hZ e199 Ar201 (j := (3 : Int32)) hin201 (g := (mkF m 75 #[.val (.long q0), .second, .val (.long q1), .second, .val (.int p2), .val (.int 4), .val (.ref b191), .unset, .unset, .unset, .unset, .unset, .unset, .unset, .unset] [(.int ((own_lu q0 (24 : Int32)).toInt8.toInt32)), (.int 3), (.ref b191)])) rfl rfl (hb hby at_75)
    have V202 : Arv Z h202 b191 k191 .byte (4 : Int32) [(.int (own_by (q0.toInt32))), (.int (own_by (own_lu q0 (8 : Int32)))), (.int (own_by (own_lu q0 (16 : Int32)))), (.int (own_by (own_lu q0 (24 : Int32))))] (.int 0) := Arv.set Ar201 q201 S201 M201 H201 J201 (fits_nar_byte _) W202 3 rfl (Nat.le_of_ble_eq_true rfl)
    have N202 := Fr.snoc X202 N199 gg191
    have Z202 : n0 ≤ h202.size := Nat.le_trans Z199 (Keep.of_wr W202).1
    obtain ⟨_, _, ⟨T204, L204, k204, n204⟩, -, X204, ⟨Lc204, hQ204, l204, y204, z204⟩, st204⟩ := Jvm.LawKit.callS X202 hx (y := (⟨"com/example/forkline/forkline/bucketing/MurmurHash3Hash32PinLaw", "mixBlock", "(II)I"⟩ : MethodName)) hown (mvT hZ (hw _ (List.mem_of_getElem? (i := 22) rfl))) (mvT hZ (hw _ (List.mem_of_getElem? (i := 23) rfl))) (mvT hZ (hw _ (List.mem_of_getElem? (i := 24) rfl))) (mvT hZ (hw _ (List.mem_of_getElem? (i := 25) rfl))) (by decide) (backOf (W := 0) (rm4 l Z a0 hw [] (0 : Int32) (q0.toInt32) h202 n0 Z202) hZ (hw _ (List.mem_of_getElem? (i := 25) rfl)) (hw _ (List.mem_of_getElem? (i := 24) rfl)) (by decide) (by decide)) (g := (mkF m 235 #[.val (.long q0), .second, .val (.long q1), .second, .val (.int p2), .val (.int 4), .val (.ref b191), .val (.int (q0.toInt32)), .val (.int (own_lu q0 (32 : Int32))), .val (.int (q1.toInt32)), .val (.int 1), .val (.int 0), .val (.int 0), .unset, .unset] [(.int (q0.toInt32)), (.int 0)])) rfl (by rw [hml]; rfl) (argsL := [(.int 0), (.int (q0.toInt32))]) (rest := []) (lenOf pd_28II29I rfl) rfl (by show 2 * 0 + _ ≤ _; exact Nat.le_of_eq rfl) (hb hby at_235) (fun _ _ => ⟨rfl, e202, (by decide : 1 + 0 ≤ _), (by decide : 4 + 0 ≤ _)⟩)
    dsimp only [Pt.U, Pt.locs, Pt.cells, Pt.slots] at X204 l204 y204 z204 st204 hQ204
    subst l204 y204 z204
    obtain ⟨rfl, N204q, e204⟩ := hQ204
    have N204 := Fr.app N202 N204q
    obtain ⟨_, _, ⟨T205, L205, k205, n205⟩, -, X205, ⟨Lc205, hQ205, l205, y205, z205⟩, st205⟩ := Jvm.LawKit.callS X204 hx (y := (⟨"com/example/forkline/forkline/bucketing/MurmurHash3", "hash32", "([B)I"⟩ : MethodName)) hown (mvT hZ (hw _ (List.mem_of_getElem? (i := 4) rfl))) (mvT hZ (hw _ (List.mem_of_getElem? (i := 5) rfl))) (mvT hZ (hw _ (List.mem_of_getElem? (i := 6) rfl))) (mvT hZ (hw _ (List.mem_of_getElem? (i := 7) rfl))) (by decide) (backOf (W := 0) (rmH_4 l Z a0 hw [] b191 k191 (own_by (q0.toInt32)) (own_by (own_lu q0 (8 : Int32))) (own_by (own_lu q0 (16 : Int32))) (own_by (own_lu q0 (24 : Int32))) h202 n0 Z202 V202) hZ (hw _ (List.mem_of_getElem? (i := 7) rfl)) (hw _ (List.mem_of_getElem? (i := 6) rfl)) (by decide) (by decide)) (g := (mkF m 386 #[.val (.long q0), .second, .val (.long q1), .second, .val (.int p2), .val (.int 4), .val (.ref b191), .val (.int (q0.toInt32)), .val (.int (own_lu q0 (32 : Int32))), .val (.int (q1.toInt32)), .val (.int 1), .val (.int 0), .val (.int (own_fin ((own_mb (0 : Int32) (q0.toInt32)) ^^^ (4 : Int32)))), .val (.int (own_lu q0 (32 : Int32))), .unset] [(.ref b191)])) rfl (by rw [hml]; rfl) (argsL := [(.ref b191)]) (rest := []) (lenOf pd_285bB29I rfl) rfl (by show 2 * 0 + _ ≤ _; exact Nat.le_of_eq rfl) (hb hby at_386) (fun _ _ => ⟨rfl, e204, (by decide : 1 + 0 ≤ _), (by decide : 4 + 0 ≤ _)⟩)
    dsimp only [Pt.U, Pt.locs, Pt.cells, Pt.slots] at X205 l205 y205 z205 st205 hQ205
    subst l205 y205 z205
    obtain ⟨rfl, N205q, e205⟩ := hQ205
    have N205 := Fr.app N204 N205q
    obtain ⟨fs, hr, hrun, hended, hW, hsame⟩ := X205.leave (v := some (.int 1)) (fun h => by rw [Bd.returns] at h; cases h)
    refine ⟨_, _, pre0 _ ?_, hrun, hended, _, _, rfl, ?_, ⟨_, rfl⟩, hW, hsame.mono (by decide) (by decide)⟩
    · refine G164 _ ?_
      rw [hn]
      refine own_iload X0.here hx (hb hby at_10) rfl ?_
      refine st191 _ ?_
      show Steps p.tables e below (T191.setTop (mkF m 14 #[.val (.long q0), .second, .val (.long q1), .second, .val (.int p2), .val (.int 4), .unset, .unset, .unset, .unset, .unset, .unset, .unset, .unset, .unset] [(.ref b191)])) _
      refine own_astore X191.here hx (hb hby at_14) rfl (l' := #[.val (.long q0), .second, .val (.long q1), .second, .val (.int p2), .val (.int 4), .val (.ref b191), .unset, .unset, .unset, .unset, .unset, .unset, .unset, .unset]) rfl ?_
      refine own_iload X191.here hx (hb hby at_16) rfl ?_
      refine own_ifNo X191.here hx (hb hby at_18) ((if0 _ _).trans (tlt (by decide : (0 : Int32) < (4 : Int32))).2.2.2) ?_
      refine own_aload X191.here hx (hb hby at_21) rfl rfl ?_
      refine own_iconst X191.here hx (0 : Int32) (hb hby at_23) rfl ?_
      refine own_lloadN X191.here hx (hb hby at_24) rfl ?_
      refine own_l2i X191.here hx (hb hby at_25) ?_
      refine own_i2b X191.here hx (hb hby at_26) ?_
      refine st193 _ ?_
      show Steps p.tables e below (T193.setTop (mkF m 28 #[.val (.long q0), .second, .val (.long q1), .second, .val (.int p2), .val (.int 4), .val (.ref b191), .unset, .unset, .unset, .unset, .unset, .unset, .unset, .unset] [])) _
      refine own_iload X193.here hx (hb hby at_28) rfl ?_
      refine own_iconst X193.here hx (1 : Int32) (hb hby at_30) rfl ?_
      refine own_icmpNo X193.here hx (hb hby at_31) (tlt (by decide : (1 : Int32) < (4 : Int32))).2.2.2 ?_
      refine own_aload X193.here hx (hb hby at_34) rfl rfl ?_
      refine own_iconst X193.here hx (1 : Int32) (hb hby at_36) rfl ?_
      refine own_lloadN X193.here hx (hb hby at_37) rfl ?_
      refine own_bipush X193.here hx (8 : Int32) (hb hby at_38) rfl ?_
      refine own_lushr X193.here hx (hb hby at_40) ?_
      refine own_l2i X193.here hx (hb hby at_41) ?_
      show Steps p.tables e below (T193.setTop (mkF m 42 #[.val (.long q0), .second, .val (.long q1), .second, .val (.int p2), .val (.int 4), .val (.ref b191), .unset, .unset, .unset, .unset, .unset, .unset, .unset, .unset] [(.int (own_lu q0 (8 : Int32))), (.int 1), (.ref b191)])) _
      refine own_i2b X193.here hx (hb hby at_42) ?_
      refine st196 _ ?_
      show Steps p.tables e below (T196.setTop (mkF m 44 #[.val (.long q0), .second, .val (.long q1), .second, .val (.int p2), .val (.int 4), .val (.ref b191), .unset, .unset, .unset, .unset, .unset, .unset, .unset, .unset] [])) _
      refine own_iload X196.here hx (hb hby at_44) rfl ?_
      refine own_iconst X196.here hx (2 : Int32) (hb hby at_46) rfl ?_
      refine own_icmpNo X196.here hx (hb hby at_47) (tlt (by decide : (2 : Int32) < (4 : Int32))).2.2.2 ?_
      refine own_aload X196.here hx (hb hby at_50) rfl rfl ?_
      refine own_iconst X196.here hx (2 : Int32) (hb hby at_52) rfl ?_
      refine own_lloadN X196.here hx (hb hby at_53) rfl ?_
      refine own_bipush X196.here hx (16 : Int32) (hb hby at_54) rfl ?_
      refine own_lushr X196.here hx (hb hby at_56) ?_
      refine own_l2i X196.here hx (hb hby at_57) ?_
      show Steps p.tables e below (T196.setTop (mkF m 58 #[.val (.long q0), .second, .val (.long q1), .second, .val (.int p2), .val (.int 4), .val (.ref b191), .unset, .unset, .unset, .unset, .unset, .unset, .unset, .unset] [(.int (own_lu q0 (16 : Int32))), (.int 2), (.ref b191)])) _
      refine own_i2b X196.here hx (hb hby at_58) ?_
      refine st199 _ ?_
      show Steps p.tables e below (T199.setTop (mkF m 60 #[.val (.long q0), .second, .val (.long q1), .second, .val (.int p2), .val (.int 4), .val (.ref b191), .unset, .unset, .unset, .unset, .unset, .unset, .unset, .unset] [])) _
      refine own_iload X199.here hx (hb hby at_60) rfl ?_
      refine own_iconst X199.here hx (3 : Int32) (hb hby at_62) rfl ?_
      refine own_icmpNo X199.here hx (hb hby at_63) (tlt (by decide : (3 : Int32) < (4 : Int32))).2.2.2 ?_
      refine own_aload X199.here hx (hb hby at_66) rfl rfl ?_
      refine own_iconst X199.here hx (3 : Int32) (hb hby at_68) rfl ?_
      refine own_lloadN X199.here hx (hb hby at_69) rfl ?_
      refine own_bipush X199.here hx (24 : Int32) (hb hby at_70) rfl ?_
      refine own_lushr X199.here hx (hb hby at_72) ?_
      refine own_l2i X199.here hx (hb hby at_73) ?_
      show Steps p.tables e below (T199.setTop (mkF m 74 #[.val (.long q0), .second, .val (.long q1), .second, .val (.int p2), .val (.int 4), .val (.ref b191), .unset, .unset, .unset, .unset, .unset, .unset, .unset, .unset] [(.int (own_lu q0 (24 : Int32))), (.int 3), (.ref b191)])) _
      refine own_i2b X199.here hx (hb hby at_74) ?_
      refine st202 _ ?_
      show Steps p.tables e below (T202.setTop (mkF m 76 #[.val (.long q0), .second, .val (.long q1), .second, .val (.int p2), .val (.int 4), .val (.ref b191), .unset, .unset, .unset, .unset, .unset, .unset, .unset, .unset] [])) _
      refine own_iload X202.here hx (hb hby at_76) rfl ?_
      refine own_iconst X202.here hx (4 : Int32) (hb hby at_78) rfl ?_
      refine own_icmpYes X202.here hx 79 92 rfl (hb hby at_79) (flt (by decide : ¬ ((4 : Int32) < (4 : Int32)))).2.2.2 (by decide) (by decide) ?_
      refine own_iload X202.here hx (hb hby at_92) rfl ?_
      refine own_iconst X202.here hx (5 : Int32) (hb hby at_94) rfl ?_
      refine own_icmpYes X202.here hx 95 108 rfl (hb hby at_95) (flt (by decide : ¬ ((5 : Int32) < (4 : Int32)))).2.2.2 (by decide) (by decide) ?_
      refine own_iload X202.here hx (hb hby at_108) rfl ?_
      refine own_bipush X202.here hx (6 : Int32) (hb hby at_110) rfl ?_
      refine own_icmpYes X202.here hx 112 126 rfl (hb hby at_112) (flt (by decide : ¬ ((6 : Int32) < (4 : Int32)))).2.2.2 (by decide) (by decide) ?_
      refine own_iload X202.here hx (hb hby at_126) rfl ?_
      refine own_bipush X202.here hx (7 : Int32) (hb hby at_128) rfl ?_
      refine own_icmpYes X202.here hx 130 144 rfl (hb hby at_130) (flt (by decide : ¬ ((7 : Int32) < (4 : Int32)))).2.2.2 (by decide) (by decide) ?_
      refine own_iload X202.here hx (hb hby at_144) rfl ?_
      refine own_bipush X202.here hx (8 : Int32) (hb hby at_146) rfl ?_
      refine own_icmpYes X202.here hx 148 159 rfl (hb hby at_148) (flt (by decide : ¬ ((8 : Int32) < (4 : Int32)))).2.2.2 (by decide) (by decide) ?_
      refine own_iload X202.here hx (hb hby at_159) rfl ?_
      refine own_bipush X202.here hx (9 : Int32) (hb hby at_161) rfl ?_
      refine own_icmpYes X202.here hx 163 177 rfl (hb hby at_163) (flt (by decide : ¬ ((9 : Int32) < (4 : Int32)))).2.2.2 (by decide) (by decide) ?_
      refine own_iload X202.here hx (hb hby at_177) rfl ?_
      refine own_bipush X202.here hx (10 : Int32) (hb hby at_179) rfl ?_
      refine own_icmpYes X202.here hx 181 195 rfl (hb hby at_181) (flt (by decide : ¬ ((10 : Int32) < (4 : Int32)))).2.2.2 (by decide) (by decide) ?_
      refine own_lloadN X202.here hx (hb hby at_195) rfl ?_
      refine own_l2i X202.here hx (hb hby at_196) ?_
      refine own_istore X202.here hx (hb hby at_197) (l' := #[.val (.long q0), .second, .val (.long q1), .second, .val (.int p2), .val (.int 4), .val (.ref b191), .val (.int (q0.toInt32)), .unset, .unset, .unset, .unset, .unset, .unset, .unset]) rfl ?_
      refine own_lloadN X202.here hx (hb hby at_199) rfl ?_
      refine own_bipush X202.here hx (32 : Int32) (hb hby at_200) rfl ?_
      refine own_lushr X202.here hx (hb hby at_202) ?_
      refine own_l2i X202.here hx (hb hby at_203) ?_
      show Steps p.tables e below (T202.setTop (mkF m 204 #[.val (.long q0), .second, .val (.long q1), .second, .val (.int p2), .val (.int 4), .val (.ref b191), .val (.int (q0.toInt32)), .unset, .unset, .unset, .unset, .unset, .unset, .unset] [(.int (own_lu q0 (32 : Int32)))])) _
      refine own_istore X202.here hx (hb hby at_204) (l' := #[.val (.long q0), .second, .val (.long q1), .second, .val (.int p2), .val (.int 4), .val (.ref b191), .val (.int (q0.toInt32)), .val (.int (own_lu q0 (32 : Int32))), .unset, .unset, .unset, .unset, .unset, .unset]) rfl ?_
      refine own_lloadN X202.here hx (hb hby at_206) rfl ?_
      refine own_l2i X202.here hx (hb hby at_207) ?_
      refine own_istore X202.here hx (hb hby at_208) (l' := #[.val (.long q0), .second, .val (.long q1), .second, .val (.int p2), .val (.int 4), .val (.ref b191), .val (.int (q0.toInt32)), .val (.int (own_lu q0 (32 : Int32))), .val (.int (q1.toInt32)), .unset, .unset, .unset, .unset, .unset]) rfl ?_
      refine own_iload X202.here hx (hb hby at_210) rfl ?_
      refine own_iconst X202.here hx (4 : Int32) (hb hby at_212) rfl ?_
      refine own_idiv X202.here hx (hb hby at_213) (by decide) ?_
      show Steps p.tables e below (T202.setTop (mkF m 214 #[.val (.long q0), .second, .val (.long q1), .second, .val (.int p2), .val (.int 4), .val (.ref b191), .val (.int (q0.toInt32)), .val (.int (own_lu q0 (32 : Int32))), .val (.int (q1.toInt32)), .unset, .unset, .unset, .unset, .unset] [(.int 1)])) _
      refine own_istore X202.here hx (hb hby at_214) (l' := #[.val (.long q0), .second, .val (.long q1), .second, .val (.int p2), .val (.int 4), .val (.ref b191), .val (.int (q0.toInt32)), .val (.int (own_lu q0 (32 : Int32))), .val (.int (q1.toInt32)), .val (.int 1), .unset, .unset, .unset, .unset]) rfl ?_
      refine own_iload X202.here hx (hb hby at_216) rfl ?_
      refine own_iconst X202.here hx (4 : Int32) (hb hby at_218) rfl ?_
      refine own_irem X202.here hx (hb hby at_219) (by decide) ?_
      show Steps p.tables e below (T202.setTop (mkF m 220 #[.val (.long q0), .second, .val (.long q1), .second, .val (.int p2), .val (.int 4), .val (.ref b191), .val (.int (q0.toInt32)), .val (.int (own_lu q0 (32 : Int32))), .val (.int (q1.toInt32)), .val (.int 1), .unset, .unset, .unset, .unset] [(.int 0)])) _
      refine own_istore X202.here hx (hb hby at_220) (l' := #[.val (.long q0), .second, .val (.long q1), .second, .val (.int p2), .val (.int 4), .val (.ref b191), .val (.int (q0.toInt32)), .val (.int (own_lu q0 (32 : Int32))), .val (.int (q1.toInt32)), .val (.int 1), .val (.int 0), .unset, .unset, .unset]) rfl ?_
      refine own_iconst X202.here hx (0 : Int32) (hb hby at_222) rfl ?_
      refine own_istore X202.here hx (hb hby at_223) (l' := #[.val (.long q0), .second, .val (.long q1), .second, .val (.int p2), .val (.int 4), .val (.ref b191), .val (.int (q0.toInt32)), .val (.int (own_lu q0 (32 : Int32))), .val (.int (q1.toInt32)), .val (.int 1), .val (.int 0), .val (.int 0), .unset, .unset]) rfl ?_
      refine own_iload X202.here hx (hb hby at_225) rfl ?_
      refine own_iconst X202.here hx (1 : Int32) (hb hby at_227) rfl ?_
      refine own_icmpNo X202.here hx (hb hby at_228) (flt (by decide : ¬ ((1 : Int32) < (1 : Int32)))).1 ?_
      refine own_iload X202.here hx (hb hby at_231) rfl ?_
      refine own_iload X202.here hx (hb hby at_233) rfl ?_
      refine st204 _ ?_
      show Steps p.tables e below (T204.setTop (mkF m 238 #[.val (.long q0), .second, .val (.long q1), .second, .val (.int p2), .val (.int 4), .val (.ref b191), .val (.int (q0.toInt32)), .val (.int (own_lu q0 (32 : Int32))), .val (.int (q1.toInt32)), .val (.int 1), .val (.int 0), .val (.int 0), .unset, .unset] [(.int (own_mb (0 : Int32) (q0.toInt32)))])) _
      refine own_istore X204.here hx (hb hby at_238) (l' := #[.val (.long q0), .second, .val (.long q1), .second, .val (.int p2), .val (.int 4), .val (.ref b191), .val (.int (q0.toInt32)), .val (.int (own_lu q0 (32 : Int32))), .val (.int (q1.toInt32)), .val (.int 1), .val (.int 0), .val (.int (own_mb (0 : Int32) (q0.toInt32))), .unset, .unset]) rfl ?_
      refine own_iload X204.here hx (hb hby at_240) rfl ?_
      refine own_iconst X204.here hx (2 : Int32) (hb hby at_242) rfl ?_
      refine own_icmpYes X204.here hx 243 255 rfl (hb hby at_243) (tlt (by decide : (1 : Int32) < (2 : Int32))).1 (by decide) (by decide) ?_
      refine own_iload X204.here hx (hb hby at_255) rfl ?_
      refine own_ifYes X204.here hx 257 265 rfl (hb hby at_257) ((if0 _ _).trans (feq (by decide : ¬ ((1 : Int32) = (0 : Int32)))).2) (by decide) (by decide) ?_
      refine own_iload X204.here hx (hb hby at_265) rfl ?_
      refine own_iconst X204.here hx (1 : Int32) (hb hby at_267) rfl ?_
      refine own_icmpNo X204.here hx (hb hby at_268) (teq (by decide : (1 : Int32) = (1 : Int32))).2 ?_
      refine own_iload X204.here hx (hb hby at_271) rfl ?_
      refine own_goto X204.here hx 273 278 rfl (hb hby at_273) (by decide) (by decide) ?_
      refine own_istore X204.here hx (hb hby at_278) (l' := #[.val (.long q0), .second, .val (.long q1), .second, .val (.int p2), .val (.int 4), .val (.ref b191), .val (.int (q0.toInt32)), .val (.int (own_lu q0 (32 : Int32))), .val (.int (q1.toInt32)), .val (.int 1), .val (.int 0), .val (.int (own_mb (0 : Int32) (q0.toInt32))), .val (.int (own_lu q0 (32 : Int32))), .unset]) rfl ?_
      refine own_iload X204.here hx (hb hby at_280) rfl ?_
      refine own_ifYes X204.here hx 282 333 rfl (hb hby at_282) ((if0 _ _).trans (flt (by decide : ¬ ((0 : Int32) < (0 : Int32)))).2.2.2) (by decide) (by decide) ?_
      refine own_iload X204.here hx (hb hby at_333) rfl ?_
      refine own_iload X204.here hx (hb hby at_335) rfl ?_
      refine own_ixor X204.here hx (hb hby at_337) ?_
      refine own_istore X204.here hx (hb hby at_338) (l' := #[.val (.long q0), .second, .val (.long q1), .second, .val (.int p2), .val (.int 4), .val (.ref b191), .val (.int (q0.toInt32)), .val (.int (own_lu q0 (32 : Int32))), .val (.int (q1.toInt32)), .val (.int 1), .val (.int 0), .val (.int ((own_mb (0 : Int32) (q0.toInt32)) ^^^ (4 : Int32))), .val (.int (own_lu q0 (32 : Int32))), .unset]) rfl ?_
      refine own_iload X204.here hx (hb hby at_340) rfl ?_
      refine own_iload X204.here hx (hb hby at_342) rfl ?_
      refine own_bipush X204.here hx (16 : Int32) (hb hby at_344) rfl ?_
      refine own_iushr X204.here hx (hb hby at_346) ?_
      refine own_ixor X204.here hx (hb hby at_347) ?_
      show Steps p.tables e below (T204.setTop (mkF m 348 #[.val (.long q0), .second, .val (.long q1), .second, .val (.int p2), .val (.int 4), .val (.ref b191), .val (.int (q0.toInt32)), .val (.int (own_lu q0 (32 : Int32))), .val (.int (q1.toInt32)), .val (.int 1), .val (.int 0), .val (.int ((own_mb (0 : Int32) (q0.toInt32)) ^^^ (4 : Int32))), .val (.int (own_lu q0 (32 : Int32))), .unset] [(.int (own_x16 ((own_mb (0 : Int32) (q0.toInt32)) ^^^ (4 : Int32))))])) _
      refine own_istore X204.here hx (hb hby at_348) (l' := #[.val (.long q0), .second, .val (.long q1), .second, .val (.int p2), .val (.int 4), .val (.ref b191), .val (.int (q0.toInt32)), .val (.int (own_lu q0 (32 : Int32))), .val (.int (q1.toInt32)), .val (.int 1), .val (.int 0), .val (.int (own_x16 ((own_mb (0 : Int32) (q0.toInt32)) ^^^ (4 : Int32)))), .val (.int (own_lu q0 (32 : Int32))), .unset]) rfl ?_
      refine own_iload X204.here hx (hb hby at_350) rfl ?_
      refine X204.ldcInt hx hown (mvT hZ (hw _ (List.mem_of_getElem? (i := 2) rfl))) (g := (mkF m 352 #[.val (.long q0), .second, .val (.long q1), .second, .val (.int p2), .val (.int 4), .val (.ref b191), .val (.int (q0.toInt32)), .val (.int (own_lu q0 (32 : Int32))), .val (.int (q1.toInt32)), .val (.int 1), .val (.int 0), .val (.int (own_x16 ((own_mb (0 : Int32) (q0.toInt32)) ^^^ (4 : Int32)))), .val (.int (own_lu q0 (32 : Int32))), .unset] [(.int (own_x16 ((own_mb (0 : Int32) (q0.toInt32)) ^^^ (4 : Int32))))])) rfl (hb hby at_352) _ ?_
      show Steps p.tables e below (T204.setTop (mkF m 354 #[.val (.long q0), .second, .val (.long q1), .second, .val (.int p2), .val (.int 4), .val (.ref b191), .val (.int (q0.toInt32)), .val (.int (own_lu q0 (32 : Int32))), .val (.int (q1.toInt32)), .val (.int 1), .val (.int 0), .val (.int (own_x16 ((own_mb (0 : Int32) (q0.toInt32)) ^^^ (4 : Int32)))), .val (.int (own_lu q0 (32 : Int32))), .unset] [(.int (-2048144789)), (.int (own_x16 ((own_mb (0 : Int32) (q0.toInt32)) ^^^ (4 : Int32))))])) _
      refine own_imul X204.here hx (hb hby at_354) ?_
      refine own_istore X204.here hx (hb hby at_355) (l' := #[.val (.long q0), .second, .val (.long q1), .second, .val (.int p2), .val (.int 4), .val (.ref b191), .val (.int (q0.toInt32)), .val (.int (own_lu q0 (32 : Int32))), .val (.int (q1.toInt32)), .val (.int 1), .val (.int 0), .val (.int ((own_x16 ((own_mb (0 : Int32) (q0.toInt32)) ^^^ (4 : Int32))) * (-2048144789 : Int32))), .val (.int (own_lu q0 (32 : Int32))), .unset]) rfl ?_
      refine own_iload X204.here hx (hb hby at_357) rfl ?_
      refine own_iload X204.here hx (hb hby at_359) rfl ?_
      refine own_bipush X204.here hx (13 : Int32) (hb hby at_361) rfl ?_
      refine own_iushr X204.here hx (hb hby at_363) ?_
      refine own_ixor X204.here hx (hb hby at_364) ?_
      show Steps p.tables e below (T204.setTop (mkF m 365 #[.val (.long q0), .second, .val (.long q1), .second, .val (.int p2), .val (.int 4), .val (.ref b191), .val (.int (q0.toInt32)), .val (.int (own_lu q0 (32 : Int32))), .val (.int (q1.toInt32)), .val (.int 1), .val (.int 0), .val (.int ((own_x16 ((own_mb (0 : Int32) (q0.toInt32)) ^^^ (4 : Int32))) * (-2048144789 : Int32))), .val (.int (own_lu q0 (32 : Int32))), .unset] [(.int (own_x13 ((own_x16 ((own_mb (0 : Int32) (q0.toInt32)) ^^^ (4 : Int32))) * (-2048144789 : Int32))))])) _
      refine own_istore X204.here hx (hb hby at_365) (l' := #[.val (.long q0), .second, .val (.long q1), .second, .val (.int p2), .val (.int 4), .val (.ref b191), .val (.int (q0.toInt32)), .val (.int (own_lu q0 (32 : Int32))), .val (.int (q1.toInt32)), .val (.int 1), .val (.int 0), .val (.int (own_x13 ((own_x16 ((own_mb (0 : Int32) (q0.toInt32)) ^^^ (4 : Int32))) * (-2048144789 : Int32)))), .val (.int (own_lu q0 (32 : Int32))), .unset]) rfl ?_
      refine own_iload X204.here hx (hb hby at_367) rfl ?_
      refine X204.ldcInt hx hown (mvT hZ (hw _ (List.mem_of_getElem? (i := 3) rfl))) (g := (mkF m 369 #[.val (.long q0), .second, .val (.long q1), .second, .val (.int p2), .val (.int 4), .val (.ref b191), .val (.int (q0.toInt32)), .val (.int (own_lu q0 (32 : Int32))), .val (.int (q1.toInt32)), .val (.int 1), .val (.int 0), .val (.int (own_x13 ((own_x16 ((own_mb (0 : Int32) (q0.toInt32)) ^^^ (4 : Int32))) * (-2048144789 : Int32)))), .val (.int (own_lu q0 (32 : Int32))), .unset] [(.int (own_x13 ((own_x16 ((own_mb (0 : Int32) (q0.toInt32)) ^^^ (4 : Int32))) * (-2048144789 : Int32))))])) rfl (hb hby at_369) _ ?_
      show Steps p.tables e below (T204.setTop (mkF m 371 #[.val (.long q0), .second, .val (.long q1), .second, .val (.int p2), .val (.int 4), .val (.ref b191), .val (.int (q0.toInt32)), .val (.int (own_lu q0 (32 : Int32))), .val (.int (q1.toInt32)), .val (.int 1), .val (.int 0), .val (.int (own_x13 ((own_x16 ((own_mb (0 : Int32) (q0.toInt32)) ^^^ (4 : Int32))) * (-2048144789 : Int32)))), .val (.int (own_lu q0 (32 : Int32))), .unset] [(.int (-1028477387)), (.int (own_x13 ((own_x16 ((own_mb (0 : Int32) (q0.toInt32)) ^^^ (4 : Int32))) * (-2048144789 : Int32))))])) _
      refine own_imul X204.here hx (hb hby at_371) ?_
      refine own_istore X204.here hx (hb hby at_372) (l' := #[.val (.long q0), .second, .val (.long q1), .second, .val (.int p2), .val (.int 4), .val (.ref b191), .val (.int (q0.toInt32)), .val (.int (own_lu q0 (32 : Int32))), .val (.int (q1.toInt32)), .val (.int 1), .val (.int 0), .val (.int ((own_x13 ((own_x16 ((own_mb (0 : Int32) (q0.toInt32)) ^^^ (4 : Int32))) * (-2048144789 : Int32))) * (-1028477387 : Int32))), .val (.int (own_lu q0 (32 : Int32))), .unset]) rfl ?_
      refine own_iload X204.here hx (hb hby at_374) rfl ?_
      refine own_iload X204.here hx (hb hby at_376) rfl ?_
      refine own_bipush X204.here hx (16 : Int32) (hb hby at_378) rfl ?_
      refine own_iushr X204.here hx (hb hby at_380) ?_
      refine own_ixor X204.here hx (hb hby at_381) ?_
      show Steps p.tables e below (T204.setTop (mkF m 382 #[.val (.long q0), .second, .val (.long q1), .second, .val (.int p2), .val (.int 4), .val (.ref b191), .val (.int (q0.toInt32)), .val (.int (own_lu q0 (32 : Int32))), .val (.int (q1.toInt32)), .val (.int 1), .val (.int 0), .val (.int ((own_x13 ((own_x16 ((own_mb (0 : Int32) (q0.toInt32)) ^^^ (4 : Int32))) * (-2048144789 : Int32))) * (-1028477387 : Int32))), .val (.int (own_lu q0 (32 : Int32))), .unset] [(.int (own_fin ((own_mb (0 : Int32) (q0.toInt32)) ^^^ (4 : Int32))))])) _
      refine own_istore X204.here hx (hb hby at_382) (l' := #[.val (.long q0), .second, .val (.long q1), .second, .val (.int p2), .val (.int 4), .val (.ref b191), .val (.int (q0.toInt32)), .val (.int (own_lu q0 (32 : Int32))), .val (.int (q1.toInt32)), .val (.int 1), .val (.int 0), .val (.int (own_fin ((own_mb (0 : Int32) (q0.toInt32)) ^^^ (4 : Int32)))), .val (.int (own_lu q0 (32 : Int32))), .unset]) rfl ?_
      refine own_aload X204.here hx (hb hby at_384) rfl rfl ?_
      refine st205 _ ?_
      show Steps p.tables e below (T205.setTop (mkF m 389 #[.val (.long q0), .second, .val (.long q1), .second, .val (.int p2), .val (.int 4), .val (.ref b191), .val (.int (q0.toInt32)), .val (.int (own_lu q0 (32 : Int32))), .val (.int (q1.toInt32)), .val (.int 1), .val (.int 0), .val (.int (own_fin ((own_mb (0 : Int32) (q0.toInt32)) ^^^ (4 : Int32)))), .val (.int (own_lu q0 (32 : Int32))), .unset] [(.int (own_fin (((own_mb (0 : Int32) (own_blk (own_by (q0.toInt32)) (own_by (own_lu q0 (8 : Int32))) (own_by (own_lu q0 (16 : Int32))) (own_by (own_lu q0 (24 : Int32))))) ^^^ (own_scr (0 : Int32))) ^^^ (4 : Int32))))])) _
      refine own_iload X205.here hx (hb hby at_389) rfl ?_
      refine own_icmpNo X205.here hx (hb hby at_391) (teq (by first | decide +kernel | simp only [own_blk0, own_blk1, own_t1e, own_t20, own_t21, own_t30, own_t31, own_scr0, Int32.xor_zero] : (own_fin (((own_mb (0 : Int32) (own_blk (own_by (q0.toInt32)) (own_by (own_lu q0 (8 : Int32))) (own_by (own_lu q0 (16 : Int32))) (own_by (own_lu q0 (24 : Int32))))) ^^^ (own_scr (0 : Int32))) ^^^ (4 : Int32))) = (own_fin ((own_mb (0 : Int32) (q0.toInt32)) ^^^ (4 : Int32))))).2 ?_
      refine own_iconst X205.here hx (1 : Int32) (hb hby at_394) rfl ?_
      refine own_goto X205.here hx 395 399 rfl (hb hby at_395) (by decide) (by decide) ?_
      exact retN X205 hx (t := .boolean) Bd.returns (by simp) (hb hby at_399) hr
    · show Q0 Z q0 q1 p2 h0 n0 _ T205.heap _
      rw [e205]
      exact ⟨rfl, N205⟩
  · obtain ⟨T206, h206, k206, X206, e206, E206, A206, st206⟩ := newP X0 hx hZ (hw _ (List.mem_of_getElem? (i := 1) rfl)) e0 (g := (mkF m 12 #[.val (.long q0), .second, .val (.long q1), .second, .val (.int p2), .val (.int 5), .unset, .unset, .unset, .unset, .unset, .unset, .unset, .unset, .unset] [(.int 5)])) rfl (hb hby at_12) rfl (by decide) (cap := 5) (by decide) (by decide) (by decide) (by decide)
    obtain ⟨b206, g206⟩ : ∃ z, z = h0.size := ⟨_, rfl⟩
    rw [← g206] at A206 st206
    have E206' := E206
    have gg206 : n0 ≤ b206 := Nat.le_trans Z0 (Nat.le_of_eq g206.symm)
    have Z206 : n0 ≤ h206.size := Nat.le_trans Z0 E206.1
    have V206 : Arv Z h206 b206 k206 .byte (5 : Int32) [(.int 0), (.int 0), (.int 0), (.int 0), (.int 0)] (.int 0) := (Arv.new A206 (by decide)).pad (pad_rep [] (.int 0) 5)
    obtain ⟨cl207, Ar207, q207, S207, M207, H207, J207⟩ := id V206
    have hin207 : ¬ ((0 : Int32) < 0 ∨ cl207.slots.size ≤ ((0 : Int32)).toNatClampNeg) := inb_of S207 ⟨by decide, by decide⟩
    obtain ⟨T208, h208, X208, e208, W208, st208⟩ := stB X206 hx hZ e206 Ar207 (j := (0 : Int32)) hin207 (g := (mkF m 27 #[.val (.long q0), .second, .val (.long q1), .second, .val (.int p2), .val (.int 5), .val (.ref b206), .unset, .unset, .unset, .unset, .unset, .unset, .unset, .unset] [(.int ((q0.toInt32).toInt8.toInt32)), (.int 0), (.ref b206)])) rfl rfl (hb hby at_27)
    have V208 : Arv Z h208 b206 k206 .byte (5 : Int32) [(.int (own_by (q0.toInt32))), (.int 0), (.int 0), (.int 0), (.int 0)] (.int 0) := Arv.set Ar207 q207 S207 M207 H207 J207 (fits_nar_byte _) W208 0 rfl (Nat.le_of_ble_eq_true rfl)
    have N208 := Fr.snoc X208 N0 gg206
    have Z208 : n0 ≤ h208.size := Nat.le_trans Z206 (Keep.of_wr W208).1
    obtain ⟨cl210, Ar210, q210, S210, M210, H210, J210⟩ := id V208
    have hin210 : ¬ ((1 : Int32) < 0 ∨ cl210.slots.size ≤ ((1 : Int32)).toNatClampNeg) := inb_of S210 ⟨by decide, by decide⟩
    obtain ⟨T211, h211, X211, e211, W211, st211⟩ := stB X208 hx hZ e208 Ar210 (j := (1 : Int32)) hin210 (g := (mkF m 43 #[.val (.long q0), .second, .val (.long q1), .second, .val (.int p2), .val (.int 5), .val (.ref b206), .unset, .unset, .unset, .unset, .unset, .unset, .unset, .unset] [(.int ((own_lu q0 (8 : Int32)).toInt8.toInt32)), (.int 1), (.ref b206)])) rfl rfl (hb hby at_43)
    have V211 : Arv Z h211 b206 k206 .byte (5 : Int32) [(.int (own_by (q0.toInt32))), (.int (own_by (own_lu q0 (8 : Int32)))), (.int 0), (.int 0), (.int 0)] (.int 0) := Arv.set Ar210 q210 S210 M210 H210 J210 (fits_nar_byte _) W211 1 rfl (Nat.le_of_ble_eq_true rfl)
    have N211 := Fr.snoc X211 N208 gg206
    have Z211 : n0 ≤ h211.size := Nat.le_trans Z208 (Keep.of_wr W211).1
    obtain ⟨cl213, Ar213, q213, S213, M213, H213, J213⟩ := id V211
    have hin213 : ¬ ((2 : Int32) < 0 ∨ cl213.slots.size ≤ ((2 : Int32)).toNatClampNeg) := inb_of S213 ⟨by decide, by decide⟩
    obtain ⟨T214, h214, X214, e214, W214, st214⟩ := stB X211 hx hZ e211 Ar213 (j := (2 : Int32)) hin213 (g := (mkF m 59 #[.val (.long q0), .second, .val (.long q1), .second, .val (.int p2), .val (.int 5), .val (.ref b206), .unset, .unset, .unset, .unset, .unset, .unset, .unset, .unset] [(.int ((own_lu q0 (16 : Int32)).toInt8.toInt32)), (.int 2), (.ref b206)])) rfl rfl (hb hby at_59)
    have V214 : Arv Z h214 b206 k206 .byte (5 : Int32) [(.int (own_by (q0.toInt32))), (.int (own_by (own_lu q0 (8 : Int32)))), (.int (own_by (own_lu q0 (16 : Int32)))), (.int 0), (.int 0)] (.int 0) := Arv.set Ar213 q213 S213 M213 H213 J213 (fits_nar_byte _) W214 2 rfl (Nat.le_of_ble_eq_true rfl)
    have N214 := Fr.snoc X214 N211 gg206
    have Z214 : n0 ≤ h214.size := Nat.le_trans Z211 (Keep.of_wr W214).1
    obtain ⟨cl216, Ar216, q216, S216, M216, H216, J216⟩ := id V214
    have hin216 : ¬ ((3 : Int32) < 0 ∨ cl216.slots.size ≤ ((3 : Int32)).toNatClampNeg) := inb_of S216 ⟨by decide, by decide⟩
    obtain ⟨T217, h217, X217, e217, W217, st217⟩ := stB X214 hx hZ e214 Ar216 (j := (3 : Int32)) hin216 (g := (mkF m 75 #[.val (.long q0), .second, .val (.long q1), .second, .val (.int p2), .val (.int 5), .val (.ref b206), .unset, .unset, .unset, .unset, .unset, .unset, .unset, .unset] [(.int ((own_lu q0 (24 : Int32)).toInt8.toInt32)), (.int 3), (.ref b206)])) rfl rfl (hb hby at_75)
    have V217 : Arv Z h217 b206 k206 .byte (5 : Int32) [(.int (own_by (q0.toInt32))), (.int (own_by (own_lu q0 (8 : Int32)))), (.int (own_by (own_lu q0 (16 : Int32)))), (.int (own_by (own_lu q0 (24 : Int32)))), (.int 0)] (.int 0) := Arv.set Ar216 q216 S216 M216 H216 J216 (fits_nar_byte _) W217 3 rfl (Nat.le_of_ble_eq_true rfl)
    have N217 := Fr.snoc X217 N214 gg206
    have Z217 : n0 ≤ h217.size := Nat.le_trans Z214 (Keep.of_wr W217).1
    obtain ⟨cl219, Ar219, q219, S219, M219, H219, J219⟩ := id V217
    have hin219 : ¬ ((4 : Int32) < 0 ∨ cl219.slots.size ≤ ((4 : Int32)).toNatClampNeg) := inb_of S219 ⟨by decide, by decide⟩
    obtain ⟨T220, h220, X220, e220, W220, st220⟩ := stB X217 hx hZ e217 Ar219 (j := (4 : Int32)) hin219 (g := (mkF m 91 #[.val (.long q0), .second, .val (.long q1), .second, .val (.int p2), .val (.int 5), .val (.ref b206), .unset, .unset, .unset, .unset, .unset, .unset, .unset, .unset] [(.int ((own_lu q0 (32 : Int32)).toInt8.toInt32)), (.int 4), (.ref b206)])) rfl rfl (hb hby at_91)
    have V220 : Arv Z h220 b206 k206 .byte (5 : Int32) [(.int (own_by (q0.toInt32))), (.int (own_by (own_lu q0 (8 : Int32)))), (.int (own_by (own_lu q0 (16 : Int32)))), (.int (own_by (own_lu q0 (24 : Int32)))), (.int (own_by (own_lu q0 (32 : Int32))))] (.int 0) := Arv.set Ar219 q219 S219 M219 H219 J219 (fits_nar_byte _) W220 4 rfl (Nat.le_of_ble_eq_true rfl)
    have N220 := Fr.snoc X220 N217 gg206
    have Z220 : n0 ≤ h220.size := Nat.le_trans Z217 (Keep.of_wr W220).1
    obtain ⟨_, _, ⟨T222, L222, k222, n222⟩, -, X222, ⟨Lc222, hQ222, l222, y222, z222⟩, st222⟩ := Jvm.LawKit.callS X220 hx (y := (⟨"com/example/forkline/forkline/bucketing/MurmurHash3Hash32PinLaw", "mixBlock", "(II)I"⟩ : MethodName)) hown (mvT hZ (hw _ (List.mem_of_getElem? (i := 22) rfl))) (mvT hZ (hw _ (List.mem_of_getElem? (i := 23) rfl))) (mvT hZ (hw _ (List.mem_of_getElem? (i := 24) rfl))) (mvT hZ (hw _ (List.mem_of_getElem? (i := 25) rfl))) (by decide) (backOf (W := 0) (rm4 l Z a0 hw [] (0 : Int32) (q0.toInt32) h220 n0 Z220) hZ (hw _ (List.mem_of_getElem? (i := 25) rfl)) (hw _ (List.mem_of_getElem? (i := 24) rfl)) (by decide) (by decide)) (g := (mkF m 235 #[.val (.long q0), .second, .val (.long q1), .second, .val (.int p2), .val (.int 5), .val (.ref b206), .val (.int (q0.toInt32)), .val (.int (own_lu q0 (32 : Int32))), .val (.int (q1.toInt32)), .val (.int 1), .val (.int 1), .val (.int 0), .unset, .unset] [(.int (q0.toInt32)), (.int 0)])) rfl (by rw [hml]; rfl) (argsL := [(.int 0), (.int (q0.toInt32))]) (rest := []) (lenOf pd_28II29I rfl) rfl (by show 2 * 0 + _ ≤ _; exact Nat.le_of_eq rfl) (hb hby at_235) (fun _ _ => ⟨rfl, e220, (by decide : 1 + 0 ≤ _), (by decide : 5 + 0 ≤ _)⟩)
    dsimp only [Pt.U, Pt.locs, Pt.cells, Pt.slots] at X222 l222 y222 z222 st222 hQ222
    subst l222 y222 z222
    obtain ⟨rfl, N222q, e222⟩ := hQ222
    have N222 := Fr.app N220 N222q
    obtain ⟨_, _, ⟨T223, L223, k223, n223⟩, -, X223, ⟨Lc223, hQ223, l223, y223, z223⟩, st223⟩ := Jvm.LawKit.callS X222 hx (y := (⟨"com/example/forkline/forkline/bucketing/MurmurHash3", "hash32", "([B)I"⟩ : MethodName)) hown (mvT hZ (hw _ (List.mem_of_getElem? (i := 4) rfl))) (mvT hZ (hw _ (List.mem_of_getElem? (i := 5) rfl))) (mvT hZ (hw _ (List.mem_of_getElem? (i := 6) rfl))) (mvT hZ (hw _ (List.mem_of_getElem? (i := 7) rfl))) (by decide) (backOf (W := 0) (rmH_5 l Z a0 hw [] b206 k206 (own_by (q0.toInt32)) (own_by (own_lu q0 (8 : Int32))) (own_by (own_lu q0 (16 : Int32))) (own_by (own_lu q0 (24 : Int32))) (own_by (own_lu q0 (32 : Int32))) h220 n0 Z220 V220) hZ (hw _ (List.mem_of_getElem? (i := 7) rfl)) (hw _ (List.mem_of_getElem? (i := 6) rfl)) (by decide) (by decide)) (g := (mkF m 386 #[.val (.long q0), .second, .val (.long q1), .second, .val (.int p2), .val (.int 5), .val (.ref b206), .val (.int (q0.toInt32)), .val (.int (own_lu q0 (32 : Int32))), .val (.int (q1.toInt32)), .val (.int 1), .val (.int 1), .val (.int (own_fin (((own_mb (0 : Int32) (q0.toInt32)) ^^^ (own_scr ((own_lu q0 (32 : Int32)) &&& (255 : Int32)))) ^^^ (5 : Int32)))), .val (.int (own_lu q0 (32 : Int32))), .val (.int (own_scr ((own_lu q0 (32 : Int32)) &&& (255 : Int32))))] [(.ref b206)])) rfl (by rw [hml]; rfl) (argsL := [(.ref b206)]) (rest := []) (lenOf pd_285bB29I rfl) rfl (by show 2 * 0 + _ ≤ _; exact Nat.le_of_eq rfl) (hb hby at_386) (fun _ _ => ⟨rfl, e222, (by decide : 1 + 0 ≤ _), (by decide : 5 + 0 ≤ _)⟩)
    dsimp only [Pt.U, Pt.locs, Pt.cells, Pt.slots] at X223 l223 y223 z223 st223 hQ223
    subst l223 y223 z223
    obtain ⟨rfl, N223q, e223⟩ := hQ223
    have N223 := Fr.app N222 N223q
    obtain ⟨fs, hr, hrun, hended, hW, hsame⟩ := X223.leave (v := some (.int 1)) (fun h => by rw [Bd.returns] at h; cases h)
    refine ⟨_, _, pre0 _ ?_, hrun, hended, _, _, rfl, ?_, ⟨_, rfl⟩, hW, hsame.mono (by decide) (by decide)⟩
    · refine G164 _ ?_
      rw [hn]
      refine own_iload X0.here hx (hb hby at_10) rfl ?_
      refine st206 _ ?_
      show Steps p.tables e below (T206.setTop (mkF m 14 #[.val (.long q0), .second, .val (.long q1), .second, .val (.int p2), .val (.int 5), .unset, .unset, .unset, .unset, .unset, .unset, .unset, .unset, .unset] [(.ref b206)])) _
      refine own_astore X206.here hx (hb hby at_14) rfl (l' := #[.val (.long q0), .second, .val (.long q1), .second, .val (.int p2), .val (.int 5), .val (.ref b206), .unset, .unset, .unset, .unset, .unset, .unset, .unset, .unset]) rfl ?_
      refine own_iload X206.here hx (hb hby at_16) rfl ?_
      refine own_ifNo X206.here hx (hb hby at_18) ((if0 _ _).trans (tlt (by decide : (0 : Int32) < (5 : Int32))).2.2.2) ?_
      refine own_aload X206.here hx (hb hby at_21) rfl rfl ?_
      refine own_iconst X206.here hx (0 : Int32) (hb hby at_23) rfl ?_
      refine own_lloadN X206.here hx (hb hby at_24) rfl ?_
      refine own_l2i X206.here hx (hb hby at_25) ?_
      refine own_i2b X206.here hx (hb hby at_26) ?_
      refine st208 _ ?_
      show Steps p.tables e below (T208.setTop (mkF m 28 #[.val (.long q0), .second, .val (.long q1), .second, .val (.int p2), .val (.int 5), .val (.ref b206), .unset, .unset, .unset, .unset, .unset, .unset, .unset, .unset] [])) _
      refine own_iload X208.here hx (hb hby at_28) rfl ?_
      refine own_iconst X208.here hx (1 : Int32) (hb hby at_30) rfl ?_
      refine own_icmpNo X208.here hx (hb hby at_31) (tlt (by decide : (1 : Int32) < (5 : Int32))).2.2.2 ?_
      refine own_aload X208.here hx (hb hby at_34) rfl rfl ?_
      refine own_iconst X208.here hx (1 : Int32) (hb hby at_36) rfl ?_
      refine own_lloadN X208.here hx (hb hby at_37) rfl ?_
      refine own_bipush X208.here hx (8 : Int32) (hb hby at_38) rfl ?_
      refine own_lushr X208.here hx (hb hby at_40) ?_
      refine own_l2i X208.here hx (hb hby at_41) ?_
      show Steps p.tables e below (T208.setTop (mkF m 42 #[.val (.long q0), .second, .val (.long q1), .second, .val (.int p2), .val (.int 5), .val (.ref b206), .unset, .unset, .unset, .unset, .unset, .unset, .unset, .unset] [(.int (own_lu q0 (8 : Int32))), (.int 1), (.ref b206)])) _
      refine own_i2b X208.here hx (hb hby at_42) ?_
      refine st211 _ ?_
      show Steps p.tables e below (T211.setTop (mkF m 44 #[.val (.long q0), .second, .val (.long q1), .second, .val (.int p2), .val (.int 5), .val (.ref b206), .unset, .unset, .unset, .unset, .unset, .unset, .unset, .unset] [])) _
      refine own_iload X211.here hx (hb hby at_44) rfl ?_
      refine own_iconst X211.here hx (2 : Int32) (hb hby at_46) rfl ?_
      refine own_icmpNo X211.here hx (hb hby at_47) (tlt (by decide : (2 : Int32) < (5 : Int32))).2.2.2 ?_
      refine own_aload X211.here hx (hb hby at_50) rfl rfl ?_
      refine own_iconst X211.here hx (2 : Int32) (hb hby at_52) rfl ?_
      refine own_lloadN X211.here hx (hb hby at_53) rfl ?_
      refine own_bipush X211.here hx (16 : Int32) (hb hby at_54) rfl ?_
      refine own_lushr X211.here hx (hb hby at_56) ?_
      refine own_l2i X211.here hx (hb hby at_57) ?_
      show Steps p.tables e below (T211.setTop (mkF m 58 #[.val (.long q0), .second, .val (.long q1), .second, .val (.int p2), .val (.int 5), .val (.ref b206), .unset, .unset, .unset, .unset, .unset, .unset, .unset, .unset] [(.int (own_lu q0 (16 : Int32))), (.int 2), (.ref b206)])) _
      refine own_i2b X211.here hx (hb hby at_58) ?_
      refine st214 _ ?_
      show Steps p.tables e below (T214.setTop (mkF m 60 #[.val (.long q0), .second, .val (.long q1), .second, .val (.int p2), .val (.int 5), .val (.ref b206), .unset, .unset, .unset, .unset, .unset, .unset, .unset, .unset] [])) _
      refine own_iload X214.here hx (hb hby at_60) rfl ?_
      refine own_iconst X214.here hx (3 : Int32) (hb hby at_62) rfl ?_
      refine own_icmpNo X214.here hx (hb hby at_63) (tlt (by decide : (3 : Int32) < (5 : Int32))).2.2.2 ?_
      refine own_aload X214.here hx (hb hby at_66) rfl rfl ?_
      refine own_iconst X214.here hx (3 : Int32) (hb hby at_68) rfl ?_
      refine own_lloadN X214.here hx (hb hby at_69) rfl ?_
      refine own_bipush X214.here hx (24 : Int32) (hb hby at_70) rfl ?_
      refine own_lushr X214.here hx (hb hby at_72) ?_
      refine own_l2i X214.here hx (hb hby at_73) ?_
      show Steps p.tables e below (T214.setTop (mkF m 74 #[.val (.long q0), .second, .val (.long q1), .second, .val (.int p2), .val (.int 5), .val (.ref b206), .unset, .unset, .unset, .unset, .unset, .unset, .unset, .unset] [(.int (own_lu q0 (24 : Int32))), (.int 3), (.ref b206)])) _
      refine own_i2b X214.here hx (hb hby at_74) ?_
      refine st217 _ ?_
      show Steps p.tables e below (T217.setTop (mkF m 76 #[.val (.long q0), .second, .val (.long q1), .second, .val (.int p2), .val (.int 5), .val (.ref b206), .unset, .unset, .unset, .unset, .unset, .unset, .unset, .unset] [])) _
      refine own_iload X217.here hx (hb hby at_76) rfl ?_
      refine own_iconst X217.here hx (4 : Int32) (hb hby at_78) rfl ?_
      refine own_icmpNo X217.here hx (hb hby at_79) (tlt (by decide : (4 : Int32) < (5 : Int32))).2.2.2 ?_
      refine own_aload X217.here hx (hb hby at_82) rfl rfl ?_
      refine own_iconst X217.here hx (4 : Int32) (hb hby at_84) rfl ?_
      refine own_lloadN X217.here hx (hb hby at_85) rfl ?_
      refine own_bipush X217.here hx (32 : Int32) (hb hby at_86) rfl ?_
      refine own_lushr X217.here hx (hb hby at_88) ?_
      refine own_l2i X217.here hx (hb hby at_89) ?_
      show Steps p.tables e below (T217.setTop (mkF m 90 #[.val (.long q0), .second, .val (.long q1), .second, .val (.int p2), .val (.int 5), .val (.ref b206), .unset, .unset, .unset, .unset, .unset, .unset, .unset, .unset] [(.int (own_lu q0 (32 : Int32))), (.int 4), (.ref b206)])) _
      refine own_i2b X217.here hx (hb hby at_90) ?_
      refine st220 _ ?_
      show Steps p.tables e below (T220.setTop (mkF m 92 #[.val (.long q0), .second, .val (.long q1), .second, .val (.int p2), .val (.int 5), .val (.ref b206), .unset, .unset, .unset, .unset, .unset, .unset, .unset, .unset] [])) _
      refine own_iload X220.here hx (hb hby at_92) rfl ?_
      refine own_iconst X220.here hx (5 : Int32) (hb hby at_94) rfl ?_
      refine own_icmpYes X220.here hx 95 108 rfl (hb hby at_95) (flt (by decide : ¬ ((5 : Int32) < (5 : Int32)))).2.2.2 (by decide) (by decide) ?_
      refine own_iload X220.here hx (hb hby at_108) rfl ?_
      refine own_bipush X220.here hx (6 : Int32) (hb hby at_110) rfl ?_
      refine own_icmpYes X220.here hx 112 126 rfl (hb hby at_112) (flt (by decide : ¬ ((6 : Int32) < (5 : Int32)))).2.2.2 (by decide) (by decide) ?_
      refine own_iload X220.here hx (hb hby at_126) rfl ?_
      refine own_bipush X220.here hx (7 : Int32) (hb hby at_128) rfl ?_
      refine own_icmpYes X220.here hx 130 144 rfl (hb hby at_130) (flt (by decide : ¬ ((7 : Int32) < (5 : Int32)))).2.2.2 (by decide) (by decide) ?_
      refine own_iload X220.here hx (hb hby at_144) rfl ?_
      refine own_bipush X220.here hx (8 : Int32) (hb hby at_146) rfl ?_
      refine own_icmpYes X220.here hx 148 159 rfl (hb hby at_148) (flt (by decide : ¬ ((8 : Int32) < (5 : Int32)))).2.2.2 (by decide) (by decide) ?_
      refine own_iload X220.here hx (hb hby at_159) rfl ?_
      refine own_bipush X220.here hx (9 : Int32) (hb hby at_161) rfl ?_
      refine own_icmpYes X220.here hx 163 177 rfl (hb hby at_163) (flt (by decide : ¬ ((9 : Int32) < (5 : Int32)))).2.2.2 (by decide) (by decide) ?_
      refine own_iload X220.here hx (hb hby at_177) rfl ?_
      refine own_bipush X220.here hx (10 : Int32) (hb hby at_179) rfl ?_
      refine own_icmpYes X220.here hx 181 195 rfl (hb hby at_181) (flt (by decide : ¬ ((10 : Int32) < (5 : Int32)))).2.2.2 (by decide) (by decide) ?_
      refine own_lloadN X220.here hx (hb hby at_195) rfl ?_
      refine own_l2i X220.here hx (hb hby at_196) ?_
      refine own_istore X220.here hx (hb hby at_197) (l' := #[.val (.long q0), .second, .val (.long q1), .second, .val (.int p2), .val (.int 5), .val (.ref b206), .val (.int (q0.toInt32)), .unset, .unset, .unset, .unset, .unset, .unset, .unset]) rfl ?_
      refine own_lloadN X220.here hx (hb hby at_199) rfl ?_
      refine own_bipush X220.here hx (32 : Int32) (hb hby at_200) rfl ?_
      refine own_lushr X220.here hx (hb hby at_202) ?_
      refine own_l2i X220.here hx (hb hby at_203) ?_
      show Steps p.tables e below (T220.setTop (mkF m 204 #[.val (.long q0), .second, .val (.long q1), .second, .val (.int p2), .val (.int 5), .val (.ref b206), .val (.int (q0.toInt32)), .unset, .unset, .unset, .unset, .unset, .unset, .unset] [(.int (own_lu q0 (32 : Int32)))])) _
      refine own_istore X220.here hx (hb hby at_204) (l' := #[.val (.long q0), .second, .val (.long q1), .second, .val (.int p2), .val (.int 5), .val (.ref b206), .val (.int (q0.toInt32)), .val (.int (own_lu q0 (32 : Int32))), .unset, .unset, .unset, .unset, .unset, .unset]) rfl ?_
      refine own_lloadN X220.here hx (hb hby at_206) rfl ?_
      refine own_l2i X220.here hx (hb hby at_207) ?_
      refine own_istore X220.here hx (hb hby at_208) (l' := #[.val (.long q0), .second, .val (.long q1), .second, .val (.int p2), .val (.int 5), .val (.ref b206), .val (.int (q0.toInt32)), .val (.int (own_lu q0 (32 : Int32))), .val (.int (q1.toInt32)), .unset, .unset, .unset, .unset, .unset]) rfl ?_
      refine own_iload X220.here hx (hb hby at_210) rfl ?_
      refine own_iconst X220.here hx (4 : Int32) (hb hby at_212) rfl ?_
      refine own_idiv X220.here hx (hb hby at_213) (by decide) ?_
      show Steps p.tables e below (T220.setTop (mkF m 214 #[.val (.long q0), .second, .val (.long q1), .second, .val (.int p2), .val (.int 5), .val (.ref b206), .val (.int (q0.toInt32)), .val (.int (own_lu q0 (32 : Int32))), .val (.int (q1.toInt32)), .unset, .unset, .unset, .unset, .unset] [(.int 1)])) _
      refine own_istore X220.here hx (hb hby at_214) (l' := #[.val (.long q0), .second, .val (.long q1), .second, .val (.int p2), .val (.int 5), .val (.ref b206), .val (.int (q0.toInt32)), .val (.int (own_lu q0 (32 : Int32))), .val (.int (q1.toInt32)), .val (.int 1), .unset, .unset, .unset, .unset]) rfl ?_
      refine own_iload X220.here hx (hb hby at_216) rfl ?_
      refine own_iconst X220.here hx (4 : Int32) (hb hby at_218) rfl ?_
      refine own_irem X220.here hx (hb hby at_219) (by decide) ?_
      show Steps p.tables e below (T220.setTop (mkF m 220 #[.val (.long q0), .second, .val (.long q1), .second, .val (.int p2), .val (.int 5), .val (.ref b206), .val (.int (q0.toInt32)), .val (.int (own_lu q0 (32 : Int32))), .val (.int (q1.toInt32)), .val (.int 1), .unset, .unset, .unset, .unset] [(.int 1)])) _
      refine own_istore X220.here hx (hb hby at_220) (l' := #[.val (.long q0), .second, .val (.long q1), .second, .val (.int p2), .val (.int 5), .val (.ref b206), .val (.int (q0.toInt32)), .val (.int (own_lu q0 (32 : Int32))), .val (.int (q1.toInt32)), .val (.int 1), .val (.int 1), .unset, .unset, .unset]) rfl ?_
      refine own_iconst X220.here hx (0 : Int32) (hb hby at_222) rfl ?_
      refine own_istore X220.here hx (hb hby at_223) (l' := #[.val (.long q0), .second, .val (.long q1), .second, .val (.int p2), .val (.int 5), .val (.ref b206), .val (.int (q0.toInt32)), .val (.int (own_lu q0 (32 : Int32))), .val (.int (q1.toInt32)), .val (.int 1), .val (.int 1), .val (.int 0), .unset, .unset]) rfl ?_
      refine own_iload X220.here hx (hb hby at_225) rfl ?_
      refine own_iconst X220.here hx (1 : Int32) (hb hby at_227) rfl ?_
      refine own_icmpNo X220.here hx (hb hby at_228) (flt (by decide : ¬ ((1 : Int32) < (1 : Int32)))).1 ?_
      refine own_iload X220.here hx (hb hby at_231) rfl ?_
      refine own_iload X220.here hx (hb hby at_233) rfl ?_
      refine st222 _ ?_
      show Steps p.tables e below (T222.setTop (mkF m 238 #[.val (.long q0), .second, .val (.long q1), .second, .val (.int p2), .val (.int 5), .val (.ref b206), .val (.int (q0.toInt32)), .val (.int (own_lu q0 (32 : Int32))), .val (.int (q1.toInt32)), .val (.int 1), .val (.int 1), .val (.int 0), .unset, .unset] [(.int (own_mb (0 : Int32) (q0.toInt32)))])) _
      refine own_istore X222.here hx (hb hby at_238) (l' := #[.val (.long q0), .second, .val (.long q1), .second, .val (.int p2), .val (.int 5), .val (.ref b206), .val (.int (q0.toInt32)), .val (.int (own_lu q0 (32 : Int32))), .val (.int (q1.toInt32)), .val (.int 1), .val (.int 1), .val (.int (own_mb (0 : Int32) (q0.toInt32))), .unset, .unset]) rfl ?_
      refine own_iload X222.here hx (hb hby at_240) rfl ?_
      refine own_iconst X222.here hx (2 : Int32) (hb hby at_242) rfl ?_
      refine own_icmpYes X222.here hx 243 255 rfl (hb hby at_243) (tlt (by decide : (1 : Int32) < (2 : Int32))).1 (by decide) (by decide) ?_
      refine own_iload X222.here hx (hb hby at_255) rfl ?_
      refine own_ifYes X222.here hx 257 265 rfl (hb hby at_257) ((if0 _ _).trans (feq (by decide : ¬ ((1 : Int32) = (0 : Int32)))).2) (by decide) (by decide) ?_
      refine own_iload X222.here hx (hb hby at_265) rfl ?_
      refine own_iconst X222.here hx (1 : Int32) (hb hby at_267) rfl ?_
      refine own_icmpNo X222.here hx (hb hby at_268) (teq (by decide : (1 : Int32) = (1 : Int32))).2 ?_
      refine own_iload X222.here hx (hb hby at_271) rfl ?_
      refine own_goto X222.here hx 273 278 rfl (hb hby at_273) (by decide) (by decide) ?_
      refine own_istore X222.here hx (hb hby at_278) (l' := #[.val (.long q0), .second, .val (.long q1), .second, .val (.int p2), .val (.int 5), .val (.ref b206), .val (.int (q0.toInt32)), .val (.int (own_lu q0 (32 : Int32))), .val (.int (q1.toInt32)), .val (.int 1), .val (.int 1), .val (.int (own_mb (0 : Int32) (q0.toInt32))), .val (.int (own_lu q0 (32 : Int32))), .unset]) rfl ?_
      refine own_iload X222.here hx (hb hby at_280) rfl ?_
      refine own_ifNo X222.here hx (hb hby at_282) ((if0 _ _).trans (tlt (by decide : (0 : Int32) < (1 : Int32))).2.2.2) ?_
      refine own_iload X222.here hx (hb hby at_285) rfl ?_
      refine own_iconst X222.here hx (1 : Int32) (hb hby at_287) rfl ?_
      refine own_bipush X222.here hx (8 : Int32) (hb hby at_288) rfl ?_
      refine own_iload X222.here hx (hb hby at_290) rfl ?_
      refine own_imul X222.here hx (hb hby at_292) ?_
      show Steps p.tables e below (T222.setTop (mkF m 293 #[.val (.long q0), .second, .val (.long q1), .second, .val (.int p2), .val (.int 5), .val (.ref b206), .val (.int (q0.toInt32)), .val (.int (own_lu q0 (32 : Int32))), .val (.int (q1.toInt32)), .val (.int 1), .val (.int 1), .val (.int (own_mb (0 : Int32) (q0.toInt32))), .val (.int (own_lu q0 (32 : Int32))), .unset] [(.int 8), (.int 1), (.int (own_lu q0 (32 : Int32)))])) _
      refine own_ishl X222.here hx (hb hby at_293) ?_
      show Steps p.tables e below (T222.setTop (mkF m 294 #[.val (.long q0), .second, .val (.long q1), .second, .val (.int p2), .val (.int 5), .val (.ref b206), .val (.int (q0.toInt32)), .val (.int (own_lu q0 (32 : Int32))), .val (.int (q1.toInt32)), .val (.int 1), .val (.int 1), .val (.int (own_mb (0 : Int32) (q0.toInt32))), .val (.int (own_lu q0 (32 : Int32))), .unset] [(.int 256), (.int (own_lu q0 (32 : Int32)))])) _
      refine own_iconst X222.here hx (1 : Int32) (hb hby at_294) rfl ?_
      refine own_isub X222.here hx (hb hby at_295) ?_
      show Steps p.tables e below (T222.setTop (mkF m 296 #[.val (.long q0), .second, .val (.long q1), .second, .val (.int p2), .val (.int 5), .val (.ref b206), .val (.int (q0.toInt32)), .val (.int (own_lu q0 (32 : Int32))), .val (.int (q1.toInt32)), .val (.int 1), .val (.int 1), .val (.int (own_mb (0 : Int32) (q0.toInt32))), .val (.int (own_lu q0 (32 : Int32))), .unset] [(.int 255), (.int (own_lu q0 (32 : Int32)))])) _
      refine own_iand X222.here hx (hb hby at_296) ?_
      show Steps p.tables e below (T222.setTop (mkF m 297 #[.val (.long q0), .second, .val (.long q1), .second, .val (.int p2), .val (.int 5), .val (.ref b206), .val (.int (q0.toInt32)), .val (.int (own_lu q0 (32 : Int32))), .val (.int (q1.toInt32)), .val (.int 1), .val (.int 1), .val (.int (own_mb (0 : Int32) (q0.toInt32))), .val (.int (own_lu q0 (32 : Int32))), .unset] [(.int ((own_lu q0 (32 : Int32)) &&& (255 : Int32)))])) _
      refine own_istore X222.here hx (hb hby at_297) (l' := #[.val (.long q0), .second, .val (.long q1), .second, .val (.int p2), .val (.int 5), .val (.ref b206), .val (.int (q0.toInt32)), .val (.int (own_lu q0 (32 : Int32))), .val (.int (q1.toInt32)), .val (.int 1), .val (.int 1), .val (.int (own_mb (0 : Int32) (q0.toInt32))), .val (.int (own_lu q0 (32 : Int32))), .val (.int ((own_lu q0 (32 : Int32)) &&& (255 : Int32)))]) rfl ?_
      refine own_iload X222.here hx (hb hby at_299) rfl ?_
      refine X222.ldcInt hx hown (mvT hZ (hw _ (List.mem_of_getElem? (i := 26) rfl))) (g := (mkF m 301 #[.val (.long q0), .second, .val (.long q1), .second, .val (.int p2), .val (.int 5), .val (.ref b206), .val (.int (q0.toInt32)), .val (.int (own_lu q0 (32 : Int32))), .val (.int (q1.toInt32)), .val (.int 1), .val (.int 1), .val (.int (own_mb (0 : Int32) (q0.toInt32))), .val (.int (own_lu q0 (32 : Int32))), .val (.int ((own_lu q0 (32 : Int32)) &&& (255 : Int32)))] [(.int ((own_lu q0 (32 : Int32)) &&& (255 : Int32)))])) rfl (hb hby at_301) _ ?_
      show Steps p.tables e below (T222.setTop (mkF m 303 #[.val (.long q0), .second, .val (.long q1), .second, .val (.int p2), .val (.int 5), .val (.ref b206), .val (.int (q0.toInt32)), .val (.int (own_lu q0 (32 : Int32))), .val (.int (q1.toInt32)), .val (.int 1), .val (.int 1), .val (.int (own_mb (0 : Int32) (q0.toInt32))), .val (.int (own_lu q0 (32 : Int32))), .val (.int ((own_lu q0 (32 : Int32)) &&& (255 : Int32)))] [(.int (-862048943)), (.int ((own_lu q0 (32 : Int32)) &&& (255 : Int32)))])) _
      refine own_imul X222.here hx (hb hby at_303) ?_
      refine own_istore X222.here hx (hb hby at_304) (l' := #[.val (.long q0), .second, .val (.long q1), .second, .val (.int p2), .val (.int 5), .val (.ref b206), .val (.int (q0.toInt32)), .val (.int (own_lu q0 (32 : Int32))), .val (.int (q1.toInt32)), .val (.int 1), .val (.int 1), .val (.int (own_mb (0 : Int32) (q0.toInt32))), .val (.int (own_lu q0 (32 : Int32))), .val (.int (((own_lu q0 (32 : Int32)) &&& (255 : Int32)) * (-862048943 : Int32)))]) rfl ?_
      refine own_iload X222.here hx (hb hby at_306) rfl ?_
      refine own_bipush X222.here hx (15 : Int32) (hb hby at_308) rfl ?_
      refine own_ishl X222.here hx (hb hby at_310) ?_
      refine own_iload X222.here hx (hb hby at_311) rfl ?_
      refine own_bipush X222.here hx (17 : Int32) (hb hby at_313) rfl ?_
      refine own_iushr X222.here hx (hb hby at_315) ?_
      refine own_ior X222.here hx (hb hby at_316) ?_
      show Steps p.tables e below (T222.setTop (mkF m 317 #[.val (.long q0), .second, .val (.long q1), .second, .val (.int p2), .val (.int 5), .val (.ref b206), .val (.int (q0.toInt32)), .val (.int (own_lu q0 (32 : Int32))), .val (.int (q1.toInt32)), .val (.int 1), .val (.int 1), .val (.int (own_mb (0 : Int32) (q0.toInt32))), .val (.int (own_lu q0 (32 : Int32))), .val (.int (((own_lu q0 (32 : Int32)) &&& (255 : Int32)) * (-862048943 : Int32)))] [(.int (own_rotl (((own_lu q0 (32 : Int32)) &&& (255 : Int32)) * (-862048943 : Int32)) (15 : Int32)))])) _
      refine own_istore X222.here hx (hb hby at_317) (l' := #[.val (.long q0), .second, .val (.long q1), .second, .val (.int p2), .val (.int 5), .val (.ref b206), .val (.int (q0.toInt32)), .val (.int (own_lu q0 (32 : Int32))), .val (.int (q1.toInt32)), .val (.int 1), .val (.int 1), .val (.int (own_mb (0 : Int32) (q0.toInt32))), .val (.int (own_lu q0 (32 : Int32))), .val (.int (own_rotl (((own_lu q0 (32 : Int32)) &&& (255 : Int32)) * (-862048943 : Int32)) (15 : Int32)))]) rfl ?_
      refine own_iload X222.here hx (hb hby at_319) rfl ?_
      refine X222.ldcInt hx hown (mvT hZ (hw _ (List.mem_of_getElem? (i := 27) rfl))) (g := (mkF m 321 #[.val (.long q0), .second, .val (.long q1), .second, .val (.int p2), .val (.int 5), .val (.ref b206), .val (.int (q0.toInt32)), .val (.int (own_lu q0 (32 : Int32))), .val (.int (q1.toInt32)), .val (.int 1), .val (.int 1), .val (.int (own_mb (0 : Int32) (q0.toInt32))), .val (.int (own_lu q0 (32 : Int32))), .val (.int (own_rotl (((own_lu q0 (32 : Int32)) &&& (255 : Int32)) * (-862048943 : Int32)) (15 : Int32)))] [(.int (own_rotl (((own_lu q0 (32 : Int32)) &&& (255 : Int32)) * (-862048943 : Int32)) (15 : Int32)))])) rfl (hb hby at_321) _ ?_
      show Steps p.tables e below (T222.setTop (mkF m 323 #[.val (.long q0), .second, .val (.long q1), .second, .val (.int p2), .val (.int 5), .val (.ref b206), .val (.int (q0.toInt32)), .val (.int (own_lu q0 (32 : Int32))), .val (.int (q1.toInt32)), .val (.int 1), .val (.int 1), .val (.int (own_mb (0 : Int32) (q0.toInt32))), .val (.int (own_lu q0 (32 : Int32))), .val (.int (own_rotl (((own_lu q0 (32 : Int32)) &&& (255 : Int32)) * (-862048943 : Int32)) (15 : Int32)))] [(.int 461845907), (.int (own_rotl (((own_lu q0 (32 : Int32)) &&& (255 : Int32)) * (-862048943 : Int32)) (15 : Int32)))])) _
      refine own_imul X222.here hx (hb hby at_323) ?_
      show Steps p.tables e below (T222.setTop (mkF m 324 #[.val (.long q0), .second, .val (.long q1), .second, .val (.int p2), .val (.int 5), .val (.ref b206), .val (.int (q0.toInt32)), .val (.int (own_lu q0 (32 : Int32))), .val (.int (q1.toInt32)), .val (.int 1), .val (.int 1), .val (.int (own_mb (0 : Int32) (q0.toInt32))), .val (.int (own_lu q0 (32 : Int32))), .val (.int (own_rotl (((own_lu q0 (32 : Int32)) &&& (255 : Int32)) * (-862048943 : Int32)) (15 : Int32)))] [(.int (own_scr ((own_lu q0 (32 : Int32)) &&& (255 : Int32))))])) _
      refine own_istore X222.here hx (hb hby at_324) (l' := #[.val (.long q0), .second, .val (.long q1), .second, .val (.int p2), .val (.int 5), .val (.ref b206), .val (.int (q0.toInt32)), .val (.int (own_lu q0 (32 : Int32))), .val (.int (q1.toInt32)), .val (.int 1), .val (.int 1), .val (.int (own_mb (0 : Int32) (q0.toInt32))), .val (.int (own_lu q0 (32 : Int32))), .val (.int (own_scr ((own_lu q0 (32 : Int32)) &&& (255 : Int32))))]) rfl ?_
      refine own_iload X222.here hx (hb hby at_326) rfl ?_
      refine own_iload X222.here hx (hb hby at_328) rfl ?_
      refine own_ixor X222.here hx (hb hby at_330) ?_
      refine own_istore X222.here hx (hb hby at_331) (l' := #[.val (.long q0), .second, .val (.long q1), .second, .val (.int p2), .val (.int 5), .val (.ref b206), .val (.int (q0.toInt32)), .val (.int (own_lu q0 (32 : Int32))), .val (.int (q1.toInt32)), .val (.int 1), .val (.int 1), .val (.int ((own_mb (0 : Int32) (q0.toInt32)) ^^^ (own_scr ((own_lu q0 (32 : Int32)) &&& (255 : Int32))))), .val (.int (own_lu q0 (32 : Int32))), .val (.int (own_scr ((own_lu q0 (32 : Int32)) &&& (255 : Int32))))]) rfl ?_
      refine own_iload X222.here hx (hb hby at_333) rfl ?_
      refine own_iload X222.here hx (hb hby at_335) rfl ?_
      refine own_ixor X222.here hx (hb hby at_337) ?_
      refine own_istore X222.here hx (hb hby at_338) (l' := #[.val (.long q0), .second, .val (.long q1), .second, .val (.int p2), .val (.int 5), .val (.ref b206), .val (.int (q0.toInt32)), .val (.int (own_lu q0 (32 : Int32))), .val (.int (q1.toInt32)), .val (.int 1), .val (.int 1), .val (.int (((own_mb (0 : Int32) (q0.toInt32)) ^^^ (own_scr ((own_lu q0 (32 : Int32)) &&& (255 : Int32)))) ^^^ (5 : Int32))), .val (.int (own_lu q0 (32 : Int32))), .val (.int (own_scr ((own_lu q0 (32 : Int32)) &&& (255 : Int32))))]) rfl ?_
      refine own_iload X222.here hx (hb hby at_340) rfl ?_
      refine own_iload X222.here hx (hb hby at_342) rfl ?_
      refine own_bipush X222.here hx (16 : Int32) (hb hby at_344) rfl ?_
      refine own_iushr X222.here hx (hb hby at_346) ?_
      refine own_ixor X222.here hx (hb hby at_347) ?_
      show Steps p.tables e below (T222.setTop (mkF m 348 #[.val (.long q0), .second, .val (.long q1), .second, .val (.int p2), .val (.int 5), .val (.ref b206), .val (.int (q0.toInt32)), .val (.int (own_lu q0 (32 : Int32))), .val (.int (q1.toInt32)), .val (.int 1), .val (.int 1), .val (.int (((own_mb (0 : Int32) (q0.toInt32)) ^^^ (own_scr ((own_lu q0 (32 : Int32)) &&& (255 : Int32)))) ^^^ (5 : Int32))), .val (.int (own_lu q0 (32 : Int32))), .val (.int (own_scr ((own_lu q0 (32 : Int32)) &&& (255 : Int32))))] [(.int (own_x16 (((own_mb (0 : Int32) (q0.toInt32)) ^^^ (own_scr ((own_lu q0 (32 : Int32)) &&& (255 : Int32)))) ^^^ (5 : Int32))))])) _
      refine own_istore X222.here hx (hb hby at_348) (l' := #[.val (.long q0), .second, .val (.long q1), .second, .val (.int p2), .val (.int 5), .val (.ref b206), .val (.int (q0.toInt32)), .val (.int (own_lu q0 (32 : Int32))), .val (.int (q1.toInt32)), .val (.int 1), .val (.int 1), .val (.int (own_x16 (((own_mb (0 : Int32) (q0.toInt32)) ^^^ (own_scr ((own_lu q0 (32 : Int32)) &&& (255 : Int32)))) ^^^ (5 : Int32)))), .val (.int (own_lu q0 (32 : Int32))), .val (.int (own_scr ((own_lu q0 (32 : Int32)) &&& (255 : Int32))))]) rfl ?_
      refine own_iload X222.here hx (hb hby at_350) rfl ?_
      refine X222.ldcInt hx hown (mvT hZ (hw _ (List.mem_of_getElem? (i := 2) rfl))) (g := (mkF m 352 #[.val (.long q0), .second, .val (.long q1), .second, .val (.int p2), .val (.int 5), .val (.ref b206), .val (.int (q0.toInt32)), .val (.int (own_lu q0 (32 : Int32))), .val (.int (q1.toInt32)), .val (.int 1), .val (.int 1), .val (.int (own_x16 (((own_mb (0 : Int32) (q0.toInt32)) ^^^ (own_scr ((own_lu q0 (32 : Int32)) &&& (255 : Int32)))) ^^^ (5 : Int32)))), .val (.int (own_lu q0 (32 : Int32))), .val (.int (own_scr ((own_lu q0 (32 : Int32)) &&& (255 : Int32))))] [(.int (own_x16 (((own_mb (0 : Int32) (q0.toInt32)) ^^^ (own_scr ((own_lu q0 (32 : Int32)) &&& (255 : Int32)))) ^^^ (5 : Int32))))])) rfl (hb hby at_352) _ ?_
      show Steps p.tables e below (T222.setTop (mkF m 354 #[.val (.long q0), .second, .val (.long q1), .second, .val (.int p2), .val (.int 5), .val (.ref b206), .val (.int (q0.toInt32)), .val (.int (own_lu q0 (32 : Int32))), .val (.int (q1.toInt32)), .val (.int 1), .val (.int 1), .val (.int (own_x16 (((own_mb (0 : Int32) (q0.toInt32)) ^^^ (own_scr ((own_lu q0 (32 : Int32)) &&& (255 : Int32)))) ^^^ (5 : Int32)))), .val (.int (own_lu q0 (32 : Int32))), .val (.int (own_scr ((own_lu q0 (32 : Int32)) &&& (255 : Int32))))] [(.int (-2048144789)), (.int (own_x16 (((own_mb (0 : Int32) (q0.toInt32)) ^^^ (own_scr ((own_lu q0 (32 : Int32)) &&& (255 : Int32)))) ^^^ (5 : Int32))))])) _
      refine own_imul X222.here hx (hb hby at_354) ?_
      refine own_istore X222.here hx (hb hby at_355) (l' := #[.val (.long q0), .second, .val (.long q1), .second, .val (.int p2), .val (.int 5), .val (.ref b206), .val (.int (q0.toInt32)), .val (.int (own_lu q0 (32 : Int32))), .val (.int (q1.toInt32)), .val (.int 1), .val (.int 1), .val (.int ((own_x16 (((own_mb (0 : Int32) (q0.toInt32)) ^^^ (own_scr ((own_lu q0 (32 : Int32)) &&& (255 : Int32)))) ^^^ (5 : Int32))) * (-2048144789 : Int32))), .val (.int (own_lu q0 (32 : Int32))), .val (.int (own_scr ((own_lu q0 (32 : Int32)) &&& (255 : Int32))))]) rfl ?_
      refine own_iload X222.here hx (hb hby at_357) rfl ?_
      refine own_iload X222.here hx (hb hby at_359) rfl ?_
      refine own_bipush X222.here hx (13 : Int32) (hb hby at_361) rfl ?_
      refine own_iushr X222.here hx (hb hby at_363) ?_
      refine own_ixor X222.here hx (hb hby at_364) ?_
      show Steps p.tables e below (T222.setTop (mkF m 365 #[.val (.long q0), .second, .val (.long q1), .second, .val (.int p2), .val (.int 5), .val (.ref b206), .val (.int (q0.toInt32)), .val (.int (own_lu q0 (32 : Int32))), .val (.int (q1.toInt32)), .val (.int 1), .val (.int 1), .val (.int ((own_x16 (((own_mb (0 : Int32) (q0.toInt32)) ^^^ (own_scr ((own_lu q0 (32 : Int32)) &&& (255 : Int32)))) ^^^ (5 : Int32))) * (-2048144789 : Int32))), .val (.int (own_lu q0 (32 : Int32))), .val (.int (own_scr ((own_lu q0 (32 : Int32)) &&& (255 : Int32))))] [(.int (own_x13 ((own_x16 (((own_mb (0 : Int32) (q0.toInt32)) ^^^ (own_scr ((own_lu q0 (32 : Int32)) &&& (255 : Int32)))) ^^^ (5 : Int32))) * (-2048144789 : Int32))))])) _
      refine own_istore X222.here hx (hb hby at_365) (l' := #[.val (.long q0), .second, .val (.long q1), .second, .val (.int p2), .val (.int 5), .val (.ref b206), .val (.int (q0.toInt32)), .val (.int (own_lu q0 (32 : Int32))), .val (.int (q1.toInt32)), .val (.int 1), .val (.int 1), .val (.int (own_x13 ((own_x16 (((own_mb (0 : Int32) (q0.toInt32)) ^^^ (own_scr ((own_lu q0 (32 : Int32)) &&& (255 : Int32)))) ^^^ (5 : Int32))) * (-2048144789 : Int32)))), .val (.int (own_lu q0 (32 : Int32))), .val (.int (own_scr ((own_lu q0 (32 : Int32)) &&& (255 : Int32))))]) rfl ?_
      refine own_iload X222.here hx (hb hby at_367) rfl ?_
      refine X222.ldcInt hx hown (mvT hZ (hw _ (List.mem_of_getElem? (i := 3) rfl))) (g := (mkF m 369 #[.val (.long q0), .second, .val (.long q1), .second, .val (.int p2), .val (.int 5), .val (.ref b206), .val (.int (q0.toInt32)), .val (.int (own_lu q0 (32 : Int32))), .val (.int (q1.toInt32)), .val (.int 1), .val (.int 1), .val (.int (own_x13 ((own_x16 (((own_mb (0 : Int32) (q0.toInt32)) ^^^ (own_scr ((own_lu q0 (32 : Int32)) &&& (255 : Int32)))) ^^^ (5 : Int32))) * (-2048144789 : Int32)))), .val (.int (own_lu q0 (32 : Int32))), .val (.int (own_scr ((own_lu q0 (32 : Int32)) &&& (255 : Int32))))] [(.int (own_x13 ((own_x16 (((own_mb (0 : Int32) (q0.toInt32)) ^^^ (own_scr ((own_lu q0 (32 : Int32)) &&& (255 : Int32)))) ^^^ (5 : Int32))) * (-2048144789 : Int32))))])) rfl (hb hby at_369) _ ?_
      show Steps p.tables e below (T222.setTop (mkF m 371 #[.val (.long q0), .second, .val (.long q1), .second, .val (.int p2), .val (.int 5), .val (.ref b206), .val (.int (q0.toInt32)), .val (.int (own_lu q0 (32 : Int32))), .val (.int (q1.toInt32)), .val (.int 1), .val (.int 1), .val (.int (own_x13 ((own_x16 (((own_mb (0 : Int32) (q0.toInt32)) ^^^ (own_scr ((own_lu q0 (32 : Int32)) &&& (255 : Int32)))) ^^^ (5 : Int32))) * (-2048144789 : Int32)))), .val (.int (own_lu q0 (32 : Int32))), .val (.int (own_scr ((own_lu q0 (32 : Int32)) &&& (255 : Int32))))] [(.int (-1028477387)), (.int (own_x13 ((own_x16 (((own_mb (0 : Int32) (q0.toInt32)) ^^^ (own_scr ((own_lu q0 (32 : Int32)) &&& (255 : Int32)))) ^^^ (5 : Int32))) * (-2048144789 : Int32))))])) _
      refine own_imul X222.here hx (hb hby at_371) ?_
      refine own_istore X222.here hx (hb hby at_372) (l' := #[.val (.long q0), .second, .val (.long q1), .second, .val (.int p2), .val (.int 5), .val (.ref b206), .val (.int (q0.toInt32)), .val (.int (own_lu q0 (32 : Int32))), .val (.int (q1.toInt32)), .val (.int 1), .val (.int 1), .val (.int ((own_x13 ((own_x16 (((own_mb (0 : Int32) (q0.toInt32)) ^^^ (own_scr ((own_lu q0 (32 : Int32)) &&& (255 : Int32)))) ^^^ (5 : Int32))) * (-2048144789 : Int32))) * (-1028477387 : Int32))), .val (.int (own_lu q0 (32 : Int32))), .val (.int (own_scr ((own_lu q0 (32 : Int32)) &&& (255 : Int32))))]) rfl ?_
      refine own_iload X222.here hx (hb hby at_374) rfl ?_
      refine own_iload X222.here hx (hb hby at_376) rfl ?_
      refine own_bipush X222.here hx (16 : Int32) (hb hby at_378) rfl ?_
      refine own_iushr X222.here hx (hb hby at_380) ?_
      refine own_ixor X222.here hx (hb hby at_381) ?_
      show Steps p.tables e below (T222.setTop (mkF m 382 #[.val (.long q0), .second, .val (.long q1), .second, .val (.int p2), .val (.int 5), .val (.ref b206), .val (.int (q0.toInt32)), .val (.int (own_lu q0 (32 : Int32))), .val (.int (q1.toInt32)), .val (.int 1), .val (.int 1), .val (.int ((own_x13 ((own_x16 (((own_mb (0 : Int32) (q0.toInt32)) ^^^ (own_scr ((own_lu q0 (32 : Int32)) &&& (255 : Int32)))) ^^^ (5 : Int32))) * (-2048144789 : Int32))) * (-1028477387 : Int32))), .val (.int (own_lu q0 (32 : Int32))), .val (.int (own_scr ((own_lu q0 (32 : Int32)) &&& (255 : Int32))))] [(.int (own_fin (((own_mb (0 : Int32) (q0.toInt32)) ^^^ (own_scr ((own_lu q0 (32 : Int32)) &&& (255 : Int32)))) ^^^ (5 : Int32))))])) _
      refine own_istore X222.here hx (hb hby at_382) (l' := #[.val (.long q0), .second, .val (.long q1), .second, .val (.int p2), .val (.int 5), .val (.ref b206), .val (.int (q0.toInt32)), .val (.int (own_lu q0 (32 : Int32))), .val (.int (q1.toInt32)), .val (.int 1), .val (.int 1), .val (.int (own_fin (((own_mb (0 : Int32) (q0.toInt32)) ^^^ (own_scr ((own_lu q0 (32 : Int32)) &&& (255 : Int32)))) ^^^ (5 : Int32)))), .val (.int (own_lu q0 (32 : Int32))), .val (.int (own_scr ((own_lu q0 (32 : Int32)) &&& (255 : Int32))))]) rfl ?_
      refine own_aload X222.here hx (hb hby at_384) rfl rfl ?_
      refine st223 _ ?_
      show Steps p.tables e below (T223.setTop (mkF m 389 #[.val (.long q0), .second, .val (.long q1), .second, .val (.int p2), .val (.int 5), .val (.ref b206), .val (.int (q0.toInt32)), .val (.int (own_lu q0 (32 : Int32))), .val (.int (q1.toInt32)), .val (.int 1), .val (.int 1), .val (.int (own_fin (((own_mb (0 : Int32) (q0.toInt32)) ^^^ (own_scr ((own_lu q0 (32 : Int32)) &&& (255 : Int32)))) ^^^ (5 : Int32)))), .val (.int (own_lu q0 (32 : Int32))), .val (.int (own_scr ((own_lu q0 (32 : Int32)) &&& (255 : Int32))))] [(.int (own_fin (((own_mb (0 : Int32) (own_blk (own_by (q0.toInt32)) (own_by (own_lu q0 (8 : Int32))) (own_by (own_lu q0 (16 : Int32))) (own_by (own_lu q0 (24 : Int32))))) ^^^ (own_scr (own_t1 (own_by (own_lu q0 (32 : Int32)))))) ^^^ (5 : Int32))))])) _
      refine own_iload X223.here hx (hb hby at_389) rfl ?_
      refine own_icmpNo X223.here hx (hb hby at_391) (teq (by first | decide +kernel | simp only [own_blk0, own_blk1, own_t1e, own_t20, own_t21, own_t30, own_t31, own_scr0, Int32.xor_zero] : (own_fin (((own_mb (0 : Int32) (own_blk (own_by (q0.toInt32)) (own_by (own_lu q0 (8 : Int32))) (own_by (own_lu q0 (16 : Int32))) (own_by (own_lu q0 (24 : Int32))))) ^^^ (own_scr (own_t1 (own_by (own_lu q0 (32 : Int32)))))) ^^^ (5 : Int32))) = (own_fin (((own_mb (0 : Int32) (q0.toInt32)) ^^^ (own_scr ((own_lu q0 (32 : Int32)) &&& (255 : Int32)))) ^^^ (5 : Int32))))).2 ?_
      refine own_iconst X223.here hx (1 : Int32) (hb hby at_394) rfl ?_
      refine own_goto X223.here hx 395 399 rfl (hb hby at_395) (by decide) (by decide) ?_
      exact retN X223 hx (t := .boolean) Bd.returns (by simp) (hb hby at_399) hr
    · show Q0 Z q0 q1 p2 h0 n0 _ T223.heap _
      rw [e223]
      exact ⟨rfl, N223⟩
  · obtain ⟨T224, h224, k224, X224, e224, E224, A224, st224⟩ := newP X0 hx hZ (hw _ (List.mem_of_getElem? (i := 1) rfl)) e0 (g := (mkF m 12 #[.val (.long q0), .second, .val (.long q1), .second, .val (.int p2), .val (.int 6), .unset, .unset, .unset, .unset, .unset, .unset, .unset, .unset, .unset] [(.int 6)])) rfl (hb hby at_12) rfl (by decide) (cap := 6) (by decide) (by decide) (by decide) (by decide)
    obtain ⟨b224, g224⟩ : ∃ z, z = h0.size := ⟨_, rfl⟩
    rw [← g224] at A224 st224
    have E224' := E224
    have gg224 : n0 ≤ b224 := Nat.le_trans Z0 (Nat.le_of_eq g224.symm)
    have Z224 : n0 ≤ h224.size := Nat.le_trans Z0 E224.1
    have V224 : Arv Z h224 b224 k224 .byte (6 : Int32) [(.int 0), (.int 0), (.int 0), (.int 0), (.int 0), (.int 0)] (.int 0) := (Arv.new A224 (by decide)).pad (pad_rep [] (.int 0) 6)
    obtain ⟨cl225, Ar225, q225, S225, M225, H225, J225⟩ := id V224
    have hin225 : ¬ ((0 : Int32) < 0 ∨ cl225.slots.size ≤ ((0 : Int32)).toNatClampNeg) := inb_of S225 ⟨by decide, by decide⟩
    obtain ⟨T226, h226, X226, e226, W226, st226⟩ := stB X224 hx hZ e224 Ar225 (j := (0 : Int32)) hin225 (g := (mkF m 27 #[.val (.long q0), .second, .val (.long q1), .second, .val (.int p2), .val (.int 6), .val (.ref b224), .unset, .unset, .unset, .unset, .unset, .unset, .unset, .unset] [(.int ((q0.toInt32).toInt8.toInt32)), (.int 0), (.ref b224)])) rfl rfl (hb hby at_27)
    have V226 : Arv Z h226 b224 k224 .byte (6 : Int32) [(.int (own_by (q0.toInt32))), (.int 0), (.int 0), (.int 0), (.int 0), (.int 0)] (.int 0) := Arv.set Ar225 q225 S225 M225 H225 J225 (fits_nar_byte _) W226 0 rfl (Nat.le_of_ble_eq_true rfl)
    have N226 := Fr.snoc X226 N0 gg224
    have Z226 : n0 ≤ h226.size := Nat.le_trans Z224 (Keep.of_wr W226).1
    obtain ⟨cl228, Ar228, q228, S228, M228, H228, J228⟩ := id V226
    have hin228 : ¬ ((1 : Int32) < 0 ∨ cl228.slots.size ≤ ((1 : Int32)).toNatClampNeg) := inb_of S228 ⟨by decide, by decide⟩
    obtain ⟨T229, h229, X229, e229, W229, st229⟩ := stB X226 hx hZ e226 Ar228 (j := (1 : Int32)) hin228 (g := (mkF m 43 #[.val (.long q0), .second, .val (.long q1), .second, .val (.int p2), .val (.int 6), .val (.ref b224), .unset, .unset, .unset, .unset, .unset, .unset, .unset, .unset] [(.int ((own_lu q0 (8 : Int32)).toInt8.toInt32)), (.int 1), (.ref b224)])) rfl rfl (hb hby at_43)
    have V229 : Arv Z h229 b224 k224 .byte (6 : Int32) [(.int (own_by (q0.toInt32))), (.int (own_by (own_lu q0 (8 : Int32)))), (.int 0), (.int 0), (.int 0), (.int 0)] (.int 0) := Arv.set Ar228 q228 S228 M228 H228 J228 (fits_nar_byte _) W229 1 rfl (Nat.le_of_ble_eq_true rfl)
    have N229 := Fr.snoc X229 N226 gg224
    have Z229 : n0 ≤ h229.size := Nat.le_trans Z226 (Keep.of_wr W229).1
    obtain ⟨cl231, Ar231, q231, S231, M231, H231, J231⟩ := id V229
    have hin231 : ¬ ((2 : Int32) < 0 ∨ cl231.slots.size ≤ ((2 : Int32)).toNatClampNeg) := inb_of S231 ⟨by decide, by decide⟩
    obtain ⟨T232, h232, X232, e232, W232, st232⟩ := stB X229 hx hZ e229 Ar231 (j := (2 : Int32)) hin231 (g := (mkF m 59 #[.val (.long q0), .second, .val (.long q1), .second, .val (.int p2), .val (.int 6), .val (.ref b224), .unset, .unset, .unset, .unset, .unset, .unset, .unset, .unset] [(.int ((own_lu q0 (16 : Int32)).toInt8.toInt32)), (.int 2), (.ref b224)])) rfl rfl (hb hby at_59)
    have V232 : Arv Z h232 b224 k224 .byte (6 : Int32) [(.int (own_by (q0.toInt32))), (.int (own_by (own_lu q0 (8 : Int32)))), (.int (own_by (own_lu q0 (16 : Int32)))), (.int 0), (.int 0), (.int 0)] (.int 0) := Arv.set Ar231 q231 S231 M231 H231 J231 (fits_nar_byte _) W232 2 rfl (Nat.le_of_ble_eq_true rfl)
    have N232 := Fr.snoc X232 N229 gg224
    have Z232 : n0 ≤ h232.size := Nat.le_trans Z229 (Keep.of_wr W232).1
    obtain ⟨cl234, Ar234, q234, S234, M234, H234, J234⟩ := id V232
    have hin234 : ¬ ((3 : Int32) < 0 ∨ cl234.slots.size ≤ ((3 : Int32)).toNatClampNeg) := inb_of S234 ⟨by decide, by decide⟩
    obtain ⟨T235, h235, X235, e235, W235, st235⟩ := stB X232 hx hZ e232 Ar234 (j := (3 : Int32)) hin234 (g := (mkF m 75 #[.val (.long q0), .second, .val (.long q1), .second, .val (.int p2), .val (.int 6), .val (.ref b224), .unset, .unset, .unset, .unset, .unset, .unset, .unset, .unset] [(.int ((own_lu q0 (24 : Int32)).toInt8.toInt32)), (.int 3), (.ref b224)])) rfl rfl (hb hby at_75)
    have V235 : Arv Z h235 b224 k224 .byte (6 : Int32) [(.int (own_by (q0.toInt32))), (.int (own_by (own_lu q0 (8 : Int32)))), (.int (own_by (own_lu q0 (16 : Int32)))), (.int (own_by (own_lu q0 (24 : Int32)))), (.int 0), (.int 0)] (.int 0) := Arv.set Ar234 q234 S234 M234 H234 J234 (fits_nar_byte _) W235 3 rfl (Nat.le_of_ble_eq_true rfl)
    have N235 := Fr.snoc X235 N232 gg224
    have Z235 : n0 ≤ h235.size := Nat.le_trans Z232 (Keep.of_wr W235).1
    obtain ⟨cl237, Ar237, q237, S237, M237, H237, J237⟩ := id V235
    have hin237 : ¬ ((4 : Int32) < 0 ∨ cl237.slots.size ≤ ((4 : Int32)).toNatClampNeg) := inb_of S237 ⟨by decide, by decide⟩
    obtain ⟨T238, h238, X238, e238, W238, st238⟩ := stB X235 hx hZ e235 Ar237 (j := (4 : Int32)) hin237 (g := (mkF m 91 #[.val (.long q0), .second, .val (.long q1), .second, .val (.int p2), .val (.int 6), .val (.ref b224), .unset, .unset, .unset, .unset, .unset, .unset, .unset, .unset] [(.int ((own_lu q0 (32 : Int32)).toInt8.toInt32)), (.int 4), (.ref b224)])) rfl rfl (hb hby at_91)
    have V238 : Arv Z h238 b224 k224 .byte (6 : Int32) [(.int (own_by (q0.toInt32))), (.int (own_by (own_lu q0 (8 : Int32)))), (.int (own_by (own_lu q0 (16 : Int32)))), (.int (own_by (own_lu q0 (24 : Int32)))), (.int (own_by (own_lu q0 (32 : Int32)))), (.int 0)] (.int 0) := Arv.set Ar237 q237 S237 M237 H237 J237 (fits_nar_byte _) W238 4 rfl (Nat.le_of_ble_eq_true rfl)
    have N238 := Fr.snoc X238 N235 gg224
    have Z238 : n0 ≤ h238.size := Nat.le_trans Z235 (Keep.of_wr W238).1
    obtain ⟨cl240, Ar240, q240, S240, M240, H240, J240⟩ := id V238
    have hin240 : ¬ ((5 : Int32) < 0 ∨ cl240.slots.size ≤ ((5 : Int32)).toNatClampNeg) := inb_of S240 ⟨by decide, by decide⟩
    obtain ⟨T241, h241, X241, e241, W241, st241⟩ := stB X238 hx hZ e238 Ar240 (j := (5 : Int32)) hin240 (g := (mkF m 107 #[.val (.long q0), .second, .val (.long q1), .second, .val (.int p2), .val (.int 6), .val (.ref b224), .unset, .unset, .unset, .unset, .unset, .unset, .unset, .unset] [(.int ((own_lu q0 (40 : Int32)).toInt8.toInt32)), (.int 5), (.ref b224)])) rfl rfl (hb hby at_107)
    have V241 : Arv Z h241 b224 k224 .byte (6 : Int32) [(.int (own_by (q0.toInt32))), (.int (own_by (own_lu q0 (8 : Int32)))), (.int (own_by (own_lu q0 (16 : Int32)))), (.int (own_by (own_lu q0 (24 : Int32)))), (.int (own_by (own_lu q0 (32 : Int32)))), (.int (own_by (own_lu q0 (40 : Int32))))] (.int 0) := Arv.set Ar240 q240 S240 M240 H240 J240 (fits_nar_byte _) W241 5 rfl (Nat.le_of_ble_eq_true rfl)
    have N241 := Fr.snoc X241 N238 gg224
    have Z241 : n0 ≤ h241.size := Nat.le_trans Z238 (Keep.of_wr W241).1
    obtain ⟨_, _, ⟨T243, L243, k243, n243⟩, -, X243, ⟨Lc243, hQ243, l243, y243, z243⟩, st243⟩ := Jvm.LawKit.callS X241 hx (y := (⟨"com/example/forkline/forkline/bucketing/MurmurHash3Hash32PinLaw", "mixBlock", "(II)I"⟩ : MethodName)) hown (mvT hZ (hw _ (List.mem_of_getElem? (i := 22) rfl))) (mvT hZ (hw _ (List.mem_of_getElem? (i := 23) rfl))) (mvT hZ (hw _ (List.mem_of_getElem? (i := 24) rfl))) (mvT hZ (hw _ (List.mem_of_getElem? (i := 25) rfl))) (by decide) (backOf (W := 0) (rm4 l Z a0 hw [] (0 : Int32) (q0.toInt32) h241 n0 Z241) hZ (hw _ (List.mem_of_getElem? (i := 25) rfl)) (hw _ (List.mem_of_getElem? (i := 24) rfl)) (by decide) (by decide)) (g := (mkF m 235 #[.val (.long q0), .second, .val (.long q1), .second, .val (.int p2), .val (.int 6), .val (.ref b224), .val (.int (q0.toInt32)), .val (.int (own_lu q0 (32 : Int32))), .val (.int (q1.toInt32)), .val (.int 1), .val (.int 2), .val (.int 0), .unset, .unset] [(.int (q0.toInt32)), (.int 0)])) rfl (by rw [hml]; rfl) (argsL := [(.int 0), (.int (q0.toInt32))]) (rest := []) (lenOf pd_28II29I rfl) rfl (by show 2 * 0 + _ ≤ _; exact Nat.le_of_eq rfl) (hb hby at_235) (fun _ _ => ⟨rfl, e241, (by decide : 1 + 0 ≤ _), (by decide : 6 + 0 ≤ _)⟩)
    dsimp only [Pt.U, Pt.locs, Pt.cells, Pt.slots] at X243 l243 y243 z243 st243 hQ243
    subst l243 y243 z243
    obtain ⟨rfl, N243q, e243⟩ := hQ243
    have N243 := Fr.app N241 N243q
    obtain ⟨_, _, ⟨T244, L244, k244, n244⟩, -, X244, ⟨Lc244, hQ244, l244, y244, z244⟩, st244⟩ := Jvm.LawKit.callS X243 hx (y := (⟨"com/example/forkline/forkline/bucketing/MurmurHash3", "hash32", "([B)I"⟩ : MethodName)) hown (mvT hZ (hw _ (List.mem_of_getElem? (i := 4) rfl))) (mvT hZ (hw _ (List.mem_of_getElem? (i := 5) rfl))) (mvT hZ (hw _ (List.mem_of_getElem? (i := 6) rfl))) (mvT hZ (hw _ (List.mem_of_getElem? (i := 7) rfl))) (by decide) (backOf (W := 0) (rmH_6 l Z a0 hw [] b224 k224 (own_by (q0.toInt32)) (own_by (own_lu q0 (8 : Int32))) (own_by (own_lu q0 (16 : Int32))) (own_by (own_lu q0 (24 : Int32))) (own_by (own_lu q0 (32 : Int32))) (own_by (own_lu q0 (40 : Int32))) h241 n0 Z241 V241) hZ (hw _ (List.mem_of_getElem? (i := 7) rfl)) (hw _ (List.mem_of_getElem? (i := 6) rfl)) (by decide) (by decide)) (g := (mkF m 386 #[.val (.long q0), .second, .val (.long q1), .second, .val (.int p2), .val (.int 6), .val (.ref b224), .val (.int (q0.toInt32)), .val (.int (own_lu q0 (32 : Int32))), .val (.int (q1.toInt32)), .val (.int 1), .val (.int 2), .val (.int (own_fin (((own_mb (0 : Int32) (q0.toInt32)) ^^^ (own_scr ((own_lu q0 (32 : Int32)) &&& (65535 : Int32)))) ^^^ (6 : Int32)))), .val (.int (own_lu q0 (32 : Int32))), .val (.int (own_scr ((own_lu q0 (32 : Int32)) &&& (65535 : Int32))))] [(.ref b224)])) rfl (by rw [hml]; rfl) (argsL := [(.ref b224)]) (rest := []) (lenOf pd_285bB29I rfl) rfl (by show 2 * 0 + _ ≤ _; exact Nat.le_of_eq rfl) (hb hby at_386) (fun _ _ => ⟨rfl, e243, (by decide : 1 + 0 ≤ _), (by decide : 6 + 0 ≤ _)⟩)
    dsimp only [Pt.U, Pt.locs, Pt.cells, Pt.slots] at X244 l244 y244 z244 st244 hQ244
    subst l244 y244 z244
    obtain ⟨rfl, N244q, e244⟩ := hQ244
    have N244 := Fr.app N243 N244q
    obtain ⟨fs, hr, hrun, hended, hW, hsame⟩ := X244.leave (v := some (.int 1)) (fun h => by rw [Bd.returns] at h; cases h)
    refine ⟨_, _, pre0 _ ?_, hrun, hended, _, _, rfl, ?_, ⟨_, rfl⟩, hW, hsame.mono (by decide) (by decide)⟩
    · refine G164 _ ?_
      rw [hn]
      refine own_iload X0.here hx (hb hby at_10) rfl ?_
      refine st224 _ ?_
      show Steps p.tables e below (T224.setTop (mkF m 14 #[.val (.long q0), .second, .val (.long q1), .second, .val (.int p2), .val (.int 6), .unset, .unset, .unset, .unset, .unset, .unset, .unset, .unset, .unset] [(.ref b224)])) _
      refine own_astore X224.here hx (hb hby at_14) rfl (l' := #[.val (.long q0), .second, .val (.long q1), .second, .val (.int p2), .val (.int 6), .val (.ref b224), .unset, .unset, .unset, .unset, .unset, .unset, .unset, .unset]) rfl ?_
      refine own_iload X224.here hx (hb hby at_16) rfl ?_
      refine own_ifNo X224.here hx (hb hby at_18) ((if0 _ _).trans (tlt (by decide : (0 : Int32) < (6 : Int32))).2.2.2) ?_
      refine own_aload X224.here hx (hb hby at_21) rfl rfl ?_
      refine own_iconst X224.here hx (0 : Int32) (hb hby at_23) rfl ?_
      refine own_lloadN X224.here hx (hb hby at_24) rfl ?_
      refine own_l2i X224.here hx (hb hby at_25) ?_
      refine own_i2b X224.here hx (hb hby at_26) ?_
      refine st226 _ ?_
      show Steps p.tables e below (T226.setTop (mkF m 28 #[.val (.long q0), .second, .val (.long q1), .second, .val (.int p2), .val (.int 6), .val (.ref b224), .unset, .unset, .unset, .unset, .unset, .unset, .unset, .unset] [])) _
      refine own_iload X226.here hx (hb hby at_28) rfl ?_
      refine own_iconst X226.here hx (1 : Int32) (hb hby at_30) rfl ?_
      refine own_icmpNo X226.here hx (hb hby at_31) (tlt (by decide : (1 : Int32) < (6 : Int32))).2.2.2 ?_
      refine own_aload X226.here hx (hb hby at_34) rfl rfl ?_
      refine own_iconst X226.here hx (1 : Int32) (hb hby at_36) rfl ?_
      refine own_lloadN X226.here hx (hb hby at_37) rfl ?_
      refine own_bipush X226.here hx (8 : Int32) (hb hby at_38) rfl ?_
      refine own_lushr X226.here hx (hb hby at_40) ?_
      refine own_l2i X226.here hx (hb hby at_41) ?_
      show Steps p.tables e below (T226.setTop (mkF m 42 #[.val (.long q0), .second, .val (.long q1), .second, .val (.int p2), .val (.int 6), .val (.ref b224), .unset, .unset, .unset, .unset, .unset, .unset, .unset, .unset] [(.int (own_lu q0 (8 : Int32))), (.int 1), (.ref b224)])) _
      refine own_i2b X226.here hx (hb hby at_42) ?_
      refine st229 _ ?_
      show Steps p.tables e below (T229.setTop (mkF m 44 #[.val (.long q0), .second, .val (.long q1), .second, .val (.int p2), .val (.int 6), .val (.ref b224), .unset, .unset, .unset, .unset, .unset, .unset, .unset, .unset] [])) _
      refine own_iload X229.here hx (hb hby at_44) rfl ?_
      refine own_iconst X229.here hx (2 : Int32) (hb hby at_46) rfl ?_
      refine own_icmpNo X229.here hx (hb hby at_47) (tlt (by decide : (2 : Int32) < (6 : Int32))).2.2.2 ?_
      refine own_aload X229.here hx (hb hby at_50) rfl rfl ?_
      refine own_iconst X229.here hx (2 : Int32) (hb hby at_52) rfl ?_
      refine own_lloadN X229.here hx (hb hby at_53) rfl ?_
      refine own_bipush X229.here hx (16 : Int32) (hb hby at_54) rfl ?_
      refine own_lushr X229.here hx (hb hby at_56) ?_
      refine own_l2i X229.here hx (hb hby at_57) ?_
      show Steps p.tables e below (T229.setTop (mkF m 58 #[.val (.long q0), .second, .val (.long q1), .second, .val (.int p2), .val (.int 6), .val (.ref b224), .unset, .unset, .unset, .unset, .unset, .unset, .unset, .unset] [(.int (own_lu q0 (16 : Int32))), (.int 2), (.ref b224)])) _
      refine own_i2b X229.here hx (hb hby at_58) ?_
      refine st232 _ ?_
      show Steps p.tables e below (T232.setTop (mkF m 60 #[.val (.long q0), .second, .val (.long q1), .second, .val (.int p2), .val (.int 6), .val (.ref b224), .unset, .unset, .unset, .unset, .unset, .unset, .unset, .unset] [])) _
      refine own_iload X232.here hx (hb hby at_60) rfl ?_
      refine own_iconst X232.here hx (3 : Int32) (hb hby at_62) rfl ?_
      refine own_icmpNo X232.here hx (hb hby at_63) (tlt (by decide : (3 : Int32) < (6 : Int32))).2.2.2 ?_
      refine own_aload X232.here hx (hb hby at_66) rfl rfl ?_
      refine own_iconst X232.here hx (3 : Int32) (hb hby at_68) rfl ?_
      refine own_lloadN X232.here hx (hb hby at_69) rfl ?_
      refine own_bipush X232.here hx (24 : Int32) (hb hby at_70) rfl ?_
      refine own_lushr X232.here hx (hb hby at_72) ?_
      refine own_l2i X232.here hx (hb hby at_73) ?_
      show Steps p.tables e below (T232.setTop (mkF m 74 #[.val (.long q0), .second, .val (.long q1), .second, .val (.int p2), .val (.int 6), .val (.ref b224), .unset, .unset, .unset, .unset, .unset, .unset, .unset, .unset] [(.int (own_lu q0 (24 : Int32))), (.int 3), (.ref b224)])) _
      refine own_i2b X232.here hx (hb hby at_74) ?_
      refine st235 _ ?_
      show Steps p.tables e below (T235.setTop (mkF m 76 #[.val (.long q0), .second, .val (.long q1), .second, .val (.int p2), .val (.int 6), .val (.ref b224), .unset, .unset, .unset, .unset, .unset, .unset, .unset, .unset] [])) _
      refine own_iload X235.here hx (hb hby at_76) rfl ?_
      refine own_iconst X235.here hx (4 : Int32) (hb hby at_78) rfl ?_
      refine own_icmpNo X235.here hx (hb hby at_79) (tlt (by decide : (4 : Int32) < (6 : Int32))).2.2.2 ?_
      refine own_aload X235.here hx (hb hby at_82) rfl rfl ?_
      refine own_iconst X235.here hx (4 : Int32) (hb hby at_84) rfl ?_
      refine own_lloadN X235.here hx (hb hby at_85) rfl ?_
      refine own_bipush X235.here hx (32 : Int32) (hb hby at_86) rfl ?_
      refine own_lushr X235.here hx (hb hby at_88) ?_
      refine own_l2i X235.here hx (hb hby at_89) ?_
      show Steps p.tables e below (T235.setTop (mkF m 90 #[.val (.long q0), .second, .val (.long q1), .second, .val (.int p2), .val (.int 6), .val (.ref b224), .unset, .unset, .unset, .unset, .unset, .unset, .unset, .unset] [(.int (own_lu q0 (32 : Int32))), (.int 4), (.ref b224)])) _
      refine own_i2b X235.here hx (hb hby at_90) ?_
      refine st238 _ ?_
      show Steps p.tables e below (T238.setTop (mkF m 92 #[.val (.long q0), .second, .val (.long q1), .second, .val (.int p2), .val (.int 6), .val (.ref b224), .unset, .unset, .unset, .unset, .unset, .unset, .unset, .unset] [])) _
      refine own_iload X238.here hx (hb hby at_92) rfl ?_
      refine own_iconst X238.here hx (5 : Int32) (hb hby at_94) rfl ?_
      refine own_icmpNo X238.here hx (hb hby at_95) (tlt (by decide : (5 : Int32) < (6 : Int32))).2.2.2 ?_
      refine own_aload X238.here hx (hb hby at_98) rfl rfl ?_
      refine own_iconst X238.here hx (5 : Int32) (hb hby at_100) rfl ?_
      refine own_lloadN X238.here hx (hb hby at_101) rfl ?_
      refine own_bipush X238.here hx (40 : Int32) (hb hby at_102) rfl ?_
      refine own_lushr X238.here hx (hb hby at_104) ?_
      refine own_l2i X238.here hx (hb hby at_105) ?_
      show Steps p.tables e below (T238.setTop (mkF m 106 #[.val (.long q0), .second, .val (.long q1), .second, .val (.int p2), .val (.int 6), .val (.ref b224), .unset, .unset, .unset, .unset, .unset, .unset, .unset, .unset] [(.int (own_lu q0 (40 : Int32))), (.int 5), (.ref b224)])) _
      refine own_i2b X238.here hx (hb hby at_106) ?_
      refine st241 _ ?_
      show Steps p.tables e below (T241.setTop (mkF m 108 #[.val (.long q0), .second, .val (.long q1), .second, .val (.int p2), .val (.int 6), .val (.ref b224), .unset, .unset, .unset, .unset, .unset, .unset, .unset, .unset] [])) _
      refine own_iload X241.here hx (hb hby at_108) rfl ?_
      refine own_bipush X241.here hx (6 : Int32) (hb hby at_110) rfl ?_
      refine own_icmpYes X241.here hx 112 126 rfl (hb hby at_112) (flt (by decide : ¬ ((6 : Int32) < (6 : Int32)))).2.2.2 (by decide) (by decide) ?_
      refine own_iload X241.here hx (hb hby at_126) rfl ?_
      refine own_bipush X241.here hx (7 : Int32) (hb hby at_128) rfl ?_
      refine own_icmpYes X241.here hx 130 144 rfl (hb hby at_130) (flt (by decide : ¬ ((7 : Int32) < (6 : Int32)))).2.2.2 (by decide) (by decide) ?_
      refine own_iload X241.here hx (hb hby at_144) rfl ?_
      refine own_bipush X241.here hx (8 : Int32) (hb hby at_146) rfl ?_
      refine own_icmpYes X241.here hx 148 159 rfl (hb hby at_148) (flt (by decide : ¬ ((8 : Int32) < (6 : Int32)))).2.2.2 (by decide) (by decide) ?_
      refine own_iload X241.here hx (hb hby at_159) rfl ?_
      refine own_bipush X241.here hx (9 : Int32) (hb hby at_161) rfl ?_
      refine own_icmpYes X241.here hx 163 177 rfl (hb hby at_163) (flt (by decide : ¬ ((9 : Int32) < (6 : Int32)))).2.2.2 (by decide) (by decide) ?_
      refine own_iload X241.here hx (hb hby at_177) rfl ?_
      refine own_bipush X241.here hx (10 : Int32) (hb hby at_179) rfl ?_
      refine own_icmpYes X241.here hx 181 195 rfl (hb hby at_181) (flt (by decide : ¬ ((10 : Int32) < (6 : Int32)))).2.2.2 (by decide) (by decide) ?_
      refine own_lloadN X241.here hx (hb hby at_195) rfl ?_
      refine own_l2i X241.here hx (hb hby at_196) ?_
      refine own_istore X241.here hx (hb hby at_197) (l' := #[.val (.long q0), .second, .val (.long q1), .second, .val (.int p2), .val (.int 6), .val (.ref b224), .val (.int (q0.toInt32)), .unset, .unset, .unset, .unset, .unset, .unset, .unset]) rfl ?_
      refine own_lloadN X241.here hx (hb hby at_199) rfl ?_
      refine own_bipush X241.here hx (32 : Int32) (hb hby at_200) rfl ?_
      refine own_lushr X241.here hx (hb hby at_202) ?_
      refine own_l2i X241.here hx (hb hby at_203) ?_
      show Steps p.tables e below (T241.setTop (mkF m 204 #[.val (.long q0), .second, .val (.long q1), .second, .val (.int p2), .val (.int 6), .val (.ref b224), .val (.int (q0.toInt32)), .unset, .unset, .unset, .unset, .unset, .unset, .unset] [(.int (own_lu q0 (32 : Int32)))])) _
      refine own_istore X241.here hx (hb hby at_204) (l' := #[.val (.long q0), .second, .val (.long q1), .second, .val (.int p2), .val (.int 6), .val (.ref b224), .val (.int (q0.toInt32)), .val (.int (own_lu q0 (32 : Int32))), .unset, .unset, .unset, .unset, .unset, .unset]) rfl ?_
      refine own_lloadN X241.here hx (hb hby at_206) rfl ?_
      refine own_l2i X241.here hx (hb hby at_207) ?_
      refine own_istore X241.here hx (hb hby at_208) (l' := #[.val (.long q0), .second, .val (.long q1), .second, .val (.int p2), .val (.int 6), .val (.ref b224), .val (.int (q0.toInt32)), .val (.int (own_lu q0 (32 : Int32))), .val (.int (q1.toInt32)), .unset, .unset, .unset, .unset, .unset]) rfl ?_
      refine own_iload X241.here hx (hb hby at_210) rfl ?_
      refine own_iconst X241.here hx (4 : Int32) (hb hby at_212) rfl ?_
      refine own_idiv X241.here hx (hb hby at_213) (by decide) ?_
      show Steps p.tables e below (T241.setTop (mkF m 214 #[.val (.long q0), .second, .val (.long q1), .second, .val (.int p2), .val (.int 6), .val (.ref b224), .val (.int (q0.toInt32)), .val (.int (own_lu q0 (32 : Int32))), .val (.int (q1.toInt32)), .unset, .unset, .unset, .unset, .unset] [(.int 1)])) _
      refine own_istore X241.here hx (hb hby at_214) (l' := #[.val (.long q0), .second, .val (.long q1), .second, .val (.int p2), .val (.int 6), .val (.ref b224), .val (.int (q0.toInt32)), .val (.int (own_lu q0 (32 : Int32))), .val (.int (q1.toInt32)), .val (.int 1), .unset, .unset, .unset, .unset]) rfl ?_
      refine own_iload X241.here hx (hb hby at_216) rfl ?_
      refine own_iconst X241.here hx (4 : Int32) (hb hby at_218) rfl ?_
      refine own_irem X241.here hx (hb hby at_219) (by decide) ?_
      show Steps p.tables e below (T241.setTop (mkF m 220 #[.val (.long q0), .second, .val (.long q1), .second, .val (.int p2), .val (.int 6), .val (.ref b224), .val (.int (q0.toInt32)), .val (.int (own_lu q0 (32 : Int32))), .val (.int (q1.toInt32)), .val (.int 1), .unset, .unset, .unset, .unset] [(.int 2)])) _
      refine own_istore X241.here hx (hb hby at_220) (l' := #[.val (.long q0), .second, .val (.long q1), .second, .val (.int p2), .val (.int 6), .val (.ref b224), .val (.int (q0.toInt32)), .val (.int (own_lu q0 (32 : Int32))), .val (.int (q1.toInt32)), .val (.int 1), .val (.int 2), .unset, .unset, .unset]) rfl ?_
      refine own_iconst X241.here hx (0 : Int32) (hb hby at_222) rfl ?_
      refine own_istore X241.here hx (hb hby at_223) (l' := #[.val (.long q0), .second, .val (.long q1), .second, .val (.int p2), .val (.int 6), .val (.ref b224), .val (.int (q0.toInt32)), .val (.int (own_lu q0 (32 : Int32))), .val (.int (q1.toInt32)), .val (.int 1), .val (.int 2), .val (.int 0), .unset, .unset]) rfl ?_
      refine own_iload X241.here hx (hb hby at_225) rfl ?_
      refine own_iconst X241.here hx (1 : Int32) (hb hby at_227) rfl ?_
      refine own_icmpNo X241.here hx (hb hby at_228) (flt (by decide : ¬ ((1 : Int32) < (1 : Int32)))).1 ?_
      refine own_iload X241.here hx (hb hby at_231) rfl ?_
      refine own_iload X241.here hx (hb hby at_233) rfl ?_
      refine st243 _ ?_
      show Steps p.tables e below (T243.setTop (mkF m 238 #[.val (.long q0), .second, .val (.long q1), .second, .val (.int p2), .val (.int 6), .val (.ref b224), .val (.int (q0.toInt32)), .val (.int (own_lu q0 (32 : Int32))), .val (.int (q1.toInt32)), .val (.int 1), .val (.int 2), .val (.int 0), .unset, .unset] [(.int (own_mb (0 : Int32) (q0.toInt32)))])) _
      refine own_istore X243.here hx (hb hby at_238) (l' := #[.val (.long q0), .second, .val (.long q1), .second, .val (.int p2), .val (.int 6), .val (.ref b224), .val (.int (q0.toInt32)), .val (.int (own_lu q0 (32 : Int32))), .val (.int (q1.toInt32)), .val (.int 1), .val (.int 2), .val (.int (own_mb (0 : Int32) (q0.toInt32))), .unset, .unset]) rfl ?_
      refine own_iload X243.here hx (hb hby at_240) rfl ?_
      refine own_iconst X243.here hx (2 : Int32) (hb hby at_242) rfl ?_
      refine own_icmpYes X243.here hx 243 255 rfl (hb hby at_243) (tlt (by decide : (1 : Int32) < (2 : Int32))).1 (by decide) (by decide) ?_
      refine own_iload X243.here hx (hb hby at_255) rfl ?_
      refine own_ifYes X243.here hx 257 265 rfl (hb hby at_257) ((if0 _ _).trans (feq (by decide : ¬ ((1 : Int32) = (0 : Int32)))).2) (by decide) (by decide) ?_
      refine own_iload X243.here hx (hb hby at_265) rfl ?_
      refine own_iconst X243.here hx (1 : Int32) (hb hby at_267) rfl ?_
      refine own_icmpNo X243.here hx (hb hby at_268) (teq (by decide : (1 : Int32) = (1 : Int32))).2 ?_
      refine own_iload X243.here hx (hb hby at_271) rfl ?_
      refine own_goto X243.here hx 273 278 rfl (hb hby at_273) (by decide) (by decide) ?_
      refine own_istore X243.here hx (hb hby at_278) (l' := #[.val (.long q0), .second, .val (.long q1), .second, .val (.int p2), .val (.int 6), .val (.ref b224), .val (.int (q0.toInt32)), .val (.int (own_lu q0 (32 : Int32))), .val (.int (q1.toInt32)), .val (.int 1), .val (.int 2), .val (.int (own_mb (0 : Int32) (q0.toInt32))), .val (.int (own_lu q0 (32 : Int32))), .unset]) rfl ?_
      refine own_iload X243.here hx (hb hby at_280) rfl ?_
      refine own_ifNo X243.here hx (hb hby at_282) ((if0 _ _).trans (tlt (by decide : (0 : Int32) < (2 : Int32))).2.2.2) ?_
      refine own_iload X243.here hx (hb hby at_285) rfl ?_
      refine own_iconst X243.here hx (1 : Int32) (hb hby at_287) rfl ?_
      refine own_bipush X243.here hx (8 : Int32) (hb hby at_288) rfl ?_
      refine own_iload X243.here hx (hb hby at_290) rfl ?_
      refine own_imul X243.here hx (hb hby at_292) ?_
      show Steps p.tables e below (T243.setTop (mkF m 293 #[.val (.long q0), .second, .val (.long q1), .second, .val (.int p2), .val (.int 6), .val (.ref b224), .val (.int (q0.toInt32)), .val (.int (own_lu q0 (32 : Int32))), .val (.int (q1.toInt32)), .val (.int 1), .val (.int 2), .val (.int (own_mb (0 : Int32) (q0.toInt32))), .val (.int (own_lu q0 (32 : Int32))), .unset] [(.int 16), (.int 1), (.int (own_lu q0 (32 : Int32)))])) _
      refine own_ishl X243.here hx (hb hby at_293) ?_
      show Steps p.tables e below (T243.setTop (mkF m 294 #[.val (.long q0), .second, .val (.long q1), .second, .val (.int p2), .val (.int 6), .val (.ref b224), .val (.int (q0.toInt32)), .val (.int (own_lu q0 (32 : Int32))), .val (.int (q1.toInt32)), .val (.int 1), .val (.int 2), .val (.int (own_mb (0 : Int32) (q0.toInt32))), .val (.int (own_lu q0 (32 : Int32))), .unset] [(.int 65536), (.int (own_lu q0 (32 : Int32)))])) _
      refine own_iconst X243.here hx (1 : Int32) (hb hby at_294) rfl ?_
      refine own_isub X243.here hx (hb hby at_295) ?_
      show Steps p.tables e below (T243.setTop (mkF m 296 #[.val (.long q0), .second, .val (.long q1), .second, .val (.int p2), .val (.int 6), .val (.ref b224), .val (.int (q0.toInt32)), .val (.int (own_lu q0 (32 : Int32))), .val (.int (q1.toInt32)), .val (.int 1), .val (.int 2), .val (.int (own_mb (0 : Int32) (q0.toInt32))), .val (.int (own_lu q0 (32 : Int32))), .unset] [(.int 65535), (.int (own_lu q0 (32 : Int32)))])) _
      refine own_iand X243.here hx (hb hby at_296) ?_
      show Steps p.tables e below (T243.setTop (mkF m 297 #[.val (.long q0), .second, .val (.long q1), .second, .val (.int p2), .val (.int 6), .val (.ref b224), .val (.int (q0.toInt32)), .val (.int (own_lu q0 (32 : Int32))), .val (.int (q1.toInt32)), .val (.int 1), .val (.int 2), .val (.int (own_mb (0 : Int32) (q0.toInt32))), .val (.int (own_lu q0 (32 : Int32))), .unset] [(.int ((own_lu q0 (32 : Int32)) &&& (65535 : Int32)))])) _
      refine own_istore X243.here hx (hb hby at_297) (l' := #[.val (.long q0), .second, .val (.long q1), .second, .val (.int p2), .val (.int 6), .val (.ref b224), .val (.int (q0.toInt32)), .val (.int (own_lu q0 (32 : Int32))), .val (.int (q1.toInt32)), .val (.int 1), .val (.int 2), .val (.int (own_mb (0 : Int32) (q0.toInt32))), .val (.int (own_lu q0 (32 : Int32))), .val (.int ((own_lu q0 (32 : Int32)) &&& (65535 : Int32)))]) rfl ?_
      refine own_iload X243.here hx (hb hby at_299) rfl ?_
      refine X243.ldcInt hx hown (mvT hZ (hw _ (List.mem_of_getElem? (i := 26) rfl))) (g := (mkF m 301 #[.val (.long q0), .second, .val (.long q1), .second, .val (.int p2), .val (.int 6), .val (.ref b224), .val (.int (q0.toInt32)), .val (.int (own_lu q0 (32 : Int32))), .val (.int (q1.toInt32)), .val (.int 1), .val (.int 2), .val (.int (own_mb (0 : Int32) (q0.toInt32))), .val (.int (own_lu q0 (32 : Int32))), .val (.int ((own_lu q0 (32 : Int32)) &&& (65535 : Int32)))] [(.int ((own_lu q0 (32 : Int32)) &&& (65535 : Int32)))])) rfl (hb hby at_301) _ ?_
      show Steps p.tables e below (T243.setTop (mkF m 303 #[.val (.long q0), .second, .val (.long q1), .second, .val (.int p2), .val (.int 6), .val (.ref b224), .val (.int (q0.toInt32)), .val (.int (own_lu q0 (32 : Int32))), .val (.int (q1.toInt32)), .val (.int 1), .val (.int 2), .val (.int (own_mb (0 : Int32) (q0.toInt32))), .val (.int (own_lu q0 (32 : Int32))), .val (.int ((own_lu q0 (32 : Int32)) &&& (65535 : Int32)))] [(.int (-862048943)), (.int ((own_lu q0 (32 : Int32)) &&& (65535 : Int32)))])) _
      refine own_imul X243.here hx (hb hby at_303) ?_
      refine own_istore X243.here hx (hb hby at_304) (l' := #[.val (.long q0), .second, .val (.long q1), .second, .val (.int p2), .val (.int 6), .val (.ref b224), .val (.int (q0.toInt32)), .val (.int (own_lu q0 (32 : Int32))), .val (.int (q1.toInt32)), .val (.int 1), .val (.int 2), .val (.int (own_mb (0 : Int32) (q0.toInt32))), .val (.int (own_lu q0 (32 : Int32))), .val (.int (((own_lu q0 (32 : Int32)) &&& (65535 : Int32)) * (-862048943 : Int32)))]) rfl ?_
      refine own_iload X243.here hx (hb hby at_306) rfl ?_
      refine own_bipush X243.here hx (15 : Int32) (hb hby at_308) rfl ?_
      refine own_ishl X243.here hx (hb hby at_310) ?_
      refine own_iload X243.here hx (hb hby at_311) rfl ?_
      refine own_bipush X243.here hx (17 : Int32) (hb hby at_313) rfl ?_
      refine own_iushr X243.here hx (hb hby at_315) ?_
      refine own_ior X243.here hx (hb hby at_316) ?_
      show Steps p.tables e below (T243.setTop (mkF m 317 #[.val (.long q0), .second, .val (.long q1), .second, .val (.int p2), .val (.int 6), .val (.ref b224), .val (.int (q0.toInt32)), .val (.int (own_lu q0 (32 : Int32))), .val (.int (q1.toInt32)), .val (.int 1), .val (.int 2), .val (.int (own_mb (0 : Int32) (q0.toInt32))), .val (.int (own_lu q0 (32 : Int32))), .val (.int (((own_lu q0 (32 : Int32)) &&& (65535 : Int32)) * (-862048943 : Int32)))] [(.int (own_rotl (((own_lu q0 (32 : Int32)) &&& (65535 : Int32)) * (-862048943 : Int32)) (15 : Int32)))])) _
      refine own_istore X243.here hx (hb hby at_317) (l' := #[.val (.long q0), .second, .val (.long q1), .second, .val (.int p2), .val (.int 6), .val (.ref b224), .val (.int (q0.toInt32)), .val (.int (own_lu q0 (32 : Int32))), .val (.int (q1.toInt32)), .val (.int 1), .val (.int 2), .val (.int (own_mb (0 : Int32) (q0.toInt32))), .val (.int (own_lu q0 (32 : Int32))), .val (.int (own_rotl (((own_lu q0 (32 : Int32)) &&& (65535 : Int32)) * (-862048943 : Int32)) (15 : Int32)))]) rfl ?_
      refine own_iload X243.here hx (hb hby at_319) rfl ?_
      refine X243.ldcInt hx hown (mvT hZ (hw _ (List.mem_of_getElem? (i := 27) rfl))) (g := (mkF m 321 #[.val (.long q0), .second, .val (.long q1), .second, .val (.int p2), .val (.int 6), .val (.ref b224), .val (.int (q0.toInt32)), .val (.int (own_lu q0 (32 : Int32))), .val (.int (q1.toInt32)), .val (.int 1), .val (.int 2), .val (.int (own_mb (0 : Int32) (q0.toInt32))), .val (.int (own_lu q0 (32 : Int32))), .val (.int (own_rotl (((own_lu q0 (32 : Int32)) &&& (65535 : Int32)) * (-862048943 : Int32)) (15 : Int32)))] [(.int (own_rotl (((own_lu q0 (32 : Int32)) &&& (65535 : Int32)) * (-862048943 : Int32)) (15 : Int32)))])) rfl (hb hby at_321) _ ?_
      show Steps p.tables e below (T243.setTop (mkF m 323 #[.val (.long q0), .second, .val (.long q1), .second, .val (.int p2), .val (.int 6), .val (.ref b224), .val (.int (q0.toInt32)), .val (.int (own_lu q0 (32 : Int32))), .val (.int (q1.toInt32)), .val (.int 1), .val (.int 2), .val (.int (own_mb (0 : Int32) (q0.toInt32))), .val (.int (own_lu q0 (32 : Int32))), .val (.int (own_rotl (((own_lu q0 (32 : Int32)) &&& (65535 : Int32)) * (-862048943 : Int32)) (15 : Int32)))] [(.int 461845907), (.int (own_rotl (((own_lu q0 (32 : Int32)) &&& (65535 : Int32)) * (-862048943 : Int32)) (15 : Int32)))])) _
      refine own_imul X243.here hx (hb hby at_323) ?_
      show Steps p.tables e below (T243.setTop (mkF m 324 #[.val (.long q0), .second, .val (.long q1), .second, .val (.int p2), .val (.int 6), .val (.ref b224), .val (.int (q0.toInt32)), .val (.int (own_lu q0 (32 : Int32))), .val (.int (q1.toInt32)), .val (.int 1), .val (.int 2), .val (.int (own_mb (0 : Int32) (q0.toInt32))), .val (.int (own_lu q0 (32 : Int32))), .val (.int (own_rotl (((own_lu q0 (32 : Int32)) &&& (65535 : Int32)) * (-862048943 : Int32)) (15 : Int32)))] [(.int (own_scr ((own_lu q0 (32 : Int32)) &&& (65535 : Int32))))])) _
      refine own_istore X243.here hx (hb hby at_324) (l' := #[.val (.long q0), .second, .val (.long q1), .second, .val (.int p2), .val (.int 6), .val (.ref b224), .val (.int (q0.toInt32)), .val (.int (own_lu q0 (32 : Int32))), .val (.int (q1.toInt32)), .val (.int 1), .val (.int 2), .val (.int (own_mb (0 : Int32) (q0.toInt32))), .val (.int (own_lu q0 (32 : Int32))), .val (.int (own_scr ((own_lu q0 (32 : Int32)) &&& (65535 : Int32))))]) rfl ?_
      refine own_iload X243.here hx (hb hby at_326) rfl ?_
      refine own_iload X243.here hx (hb hby at_328) rfl ?_
      refine own_ixor X243.here hx (hb hby at_330) ?_
      refine own_istore X243.here hx (hb hby at_331) (l' := #[.val (.long q0), .second, .val (.long q1), .second, .val (.int p2), .val (.int 6), .val (.ref b224), .val (.int (q0.toInt32)), .val (.int (own_lu q0 (32 : Int32))), .val (.int (q1.toInt32)), .val (.int 1), .val (.int 2), .val (.int ((own_mb (0 : Int32) (q0.toInt32)) ^^^ (own_scr ((own_lu q0 (32 : Int32)) &&& (65535 : Int32))))), .val (.int (own_lu q0 (32 : Int32))), .val (.int (own_scr ((own_lu q0 (32 : Int32)) &&& (65535 : Int32))))]) rfl ?_
      refine own_iload X243.here hx (hb hby at_333) rfl ?_
      refine own_iload X243.here hx (hb hby at_335) rfl ?_
      refine own_ixor X243.here hx (hb hby at_337) ?_
      refine own_istore X243.here hx (hb hby at_338) (l' := #[.val (.long q0), .second, .val (.long q1), .second, .val (.int p2), .val (.int 6), .val (.ref b224), .val (.int (q0.toInt32)), .val (.int (own_lu q0 (32 : Int32))), .val (.int (q1.toInt32)), .val (.int 1), .val (.int 2), .val (.int (((own_mb (0 : Int32) (q0.toInt32)) ^^^ (own_scr ((own_lu q0 (32 : Int32)) &&& (65535 : Int32)))) ^^^ (6 : Int32))), .val (.int (own_lu q0 (32 : Int32))), .val (.int (own_scr ((own_lu q0 (32 : Int32)) &&& (65535 : Int32))))]) rfl ?_
      refine own_iload X243.here hx (hb hby at_340) rfl ?_
      refine own_iload X243.here hx (hb hby at_342) rfl ?_
      refine own_bipush X243.here hx (16 : Int32) (hb hby at_344) rfl ?_
      refine own_iushr X243.here hx (hb hby at_346) ?_
      refine own_ixor X243.here hx (hb hby at_347) ?_
      show Steps p.tables e below (T243.setTop (mkF m 348 #[.val (.long q0), .second, .val (.long q1), .second, .val (.int p2), .val (.int 6), .val (.ref b224), .val (.int (q0.toInt32)), .val (.int (own_lu q0 (32 : Int32))), .val (.int (q1.toInt32)), .val (.int 1), .val (.int 2), .val (.int (((own_mb (0 : Int32) (q0.toInt32)) ^^^ (own_scr ((own_lu q0 (32 : Int32)) &&& (65535 : Int32)))) ^^^ (6 : Int32))), .val (.int (own_lu q0 (32 : Int32))), .val (.int (own_scr ((own_lu q0 (32 : Int32)) &&& (65535 : Int32))))] [(.int (own_x16 (((own_mb (0 : Int32) (q0.toInt32)) ^^^ (own_scr ((own_lu q0 (32 : Int32)) &&& (65535 : Int32)))) ^^^ (6 : Int32))))])) _
      refine own_istore X243.here hx (hb hby at_348) (l' := #[.val (.long q0), .second, .val (.long q1), .second, .val (.int p2), .val (.int 6), .val (.ref b224), .val (.int (q0.toInt32)), .val (.int (own_lu q0 (32 : Int32))), .val (.int (q1.toInt32)), .val (.int 1), .val (.int 2), .val (.int (own_x16 (((own_mb (0 : Int32) (q0.toInt32)) ^^^ (own_scr ((own_lu q0 (32 : Int32)) &&& (65535 : Int32)))) ^^^ (6 : Int32)))), .val (.int (own_lu q0 (32 : Int32))), .val (.int (own_scr ((own_lu q0 (32 : Int32)) &&& (65535 : Int32))))]) rfl ?_
      refine own_iload X243.here hx (hb hby at_350) rfl ?_
      refine X243.ldcInt hx hown (mvT hZ (hw _ (List.mem_of_getElem? (i := 2) rfl))) (g := (mkF m 352 #[.val (.long q0), .second, .val (.long q1), .second, .val (.int p2), .val (.int 6), .val (.ref b224), .val (.int (q0.toInt32)), .val (.int (own_lu q0 (32 : Int32))), .val (.int (q1.toInt32)), .val (.int 1), .val (.int 2), .val (.int (own_x16 (((own_mb (0 : Int32) (q0.toInt32)) ^^^ (own_scr ((own_lu q0 (32 : Int32)) &&& (65535 : Int32)))) ^^^ (6 : Int32)))), .val (.int (own_lu q0 (32 : Int32))), .val (.int (own_scr ((own_lu q0 (32 : Int32)) &&& (65535 : Int32))))] [(.int (own_x16 (((own_mb (0 : Int32) (q0.toInt32)) ^^^ (own_scr ((own_lu q0 (32 : Int32)) &&& (65535 : Int32)))) ^^^ (6 : Int32))))])) rfl (hb hby at_352) _ ?_
      show Steps p.tables e below (T243.setTop (mkF m 354 #[.val (.long q0), .second, .val (.long q1), .second, .val (.int p2), .val (.int 6), .val (.ref b224), .val (.int (q0.toInt32)), .val (.int (own_lu q0 (32 : Int32))), .val (.int (q1.toInt32)), .val (.int 1), .val (.int 2), .val (.int (own_x16 (((own_mb (0 : Int32) (q0.toInt32)) ^^^ (own_scr ((own_lu q0 (32 : Int32)) &&& (65535 : Int32)))) ^^^ (6 : Int32)))), .val (.int (own_lu q0 (32 : Int32))), .val (.int (own_scr ((own_lu q0 (32 : Int32)) &&& (65535 : Int32))))] [(.int (-2048144789)), (.int (own_x16 (((own_mb (0 : Int32) (q0.toInt32)) ^^^ (own_scr ((own_lu q0 (32 : Int32)) &&& (65535 : Int32)))) ^^^ (6 : Int32))))])) _
      refine own_imul X243.here hx (hb hby at_354) ?_
      refine own_istore X243.here hx (hb hby at_355) (l' := #[.val (.long q0), .second, .val (.long q1), .second, .val (.int p2), .val (.int 6), .val (.ref b224), .val (.int (q0.toInt32)), .val (.int (own_lu q0 (32 : Int32))), .val (.int (q1.toInt32)), .val (.int 1), .val (.int 2), .val (.int ((own_x16 (((own_mb (0 : Int32) (q0.toInt32)) ^^^ (own_scr ((own_lu q0 (32 : Int32)) &&& (65535 : Int32)))) ^^^ (6 : Int32))) * (-2048144789 : Int32))), .val (.int (own_lu q0 (32 : Int32))), .val (.int (own_scr ((own_lu q0 (32 : Int32)) &&& (65535 : Int32))))]) rfl ?_
      refine own_iload X243.here hx (hb hby at_357) rfl ?_
      refine own_iload X243.here hx (hb hby at_359) rfl ?_
      refine own_bipush X243.here hx (13 : Int32) (hb hby at_361) rfl ?_
      refine own_iushr X243.here hx (hb hby at_363) ?_
      refine own_ixor X243.here hx (hb hby at_364) ?_
      show Steps p.tables e below (T243.setTop (mkF m 365 #[.val (.long q0), .second, .val (.long q1), .second, .val (.int p2), .val (.int 6), .val (.ref b224), .val (.int (q0.toInt32)), .val (.int (own_lu q0 (32 : Int32))), .val (.int (q1.toInt32)), .val (.int 1), .val (.int 2), .val (.int ((own_x16 (((own_mb (0 : Int32) (q0.toInt32)) ^^^ (own_scr ((own_lu q0 (32 : Int32)) &&& (65535 : Int32)))) ^^^ (6 : Int32))) * (-2048144789 : Int32))), .val (.int (own_lu q0 (32 : Int32))), .val (.int (own_scr ((own_lu q0 (32 : Int32)) &&& (65535 : Int32))))] [(.int (own_x13 ((own_x16 (((own_mb (0 : Int32) (q0.toInt32)) ^^^ (own_scr ((own_lu q0 (32 : Int32)) &&& (65535 : Int32)))) ^^^ (6 : Int32))) * (-2048144789 : Int32))))])) _
      refine own_istore X243.here hx (hb hby at_365) (l' := #[.val (.long q0), .second, .val (.long q1), .second, .val (.int p2), .val (.int 6), .val (.ref b224), .val (.int (q0.toInt32)), .val (.int (own_lu q0 (32 : Int32))), .val (.int (q1.toInt32)), .val (.int 1), .val (.int 2), .val (.int (own_x13 ((own_x16 (((own_mb (0 : Int32) (q0.toInt32)) ^^^ (own_scr ((own_lu q0 (32 : Int32)) &&& (65535 : Int32)))) ^^^ (6 : Int32))) * (-2048144789 : Int32)))), .val (.int (own_lu q0 (32 : Int32))), .val (.int (own_scr ((own_lu q0 (32 : Int32)) &&& (65535 : Int32))))]) rfl ?_
      refine own_iload X243.here hx (hb hby at_367) rfl ?_
      refine X243.ldcInt hx hown (mvT hZ (hw _ (List.mem_of_getElem? (i := 3) rfl))) (g := (mkF m 369 #[.val (.long q0), .second, .val (.long q1), .second, .val (.int p2), .val (.int 6), .val (.ref b224), .val (.int (q0.toInt32)), .val (.int (own_lu q0 (32 : Int32))), .val (.int (q1.toInt32)), .val (.int 1), .val (.int 2), .val (.int (own_x13 ((own_x16 (((own_mb (0 : Int32) (q0.toInt32)) ^^^ (own_scr ((own_lu q0 (32 : Int32)) &&& (65535 : Int32)))) ^^^ (6 : Int32))) * (-2048144789 : Int32)))), .val (.int (own_lu q0 (32 : Int32))), .val (.int (own_scr ((own_lu q0 (32 : Int32)) &&& (65535 : Int32))))] [(.int (own_x13 ((own_x16 (((own_mb (0 : Int32) (q0.toInt32)) ^^^ (own_scr ((own_lu q0 (32 : Int32)) &&& (65535 : Int32)))) ^^^ (6 : Int32))) * (-2048144789 : Int32))))])) rfl (hb hby at_369) _ ?_
      show Steps p.tables e below (T243.setTop (mkF m 371 #[.val (.long q0), .second, .val (.long q1), .second, .val (.int p2), .val (.int 6), .val (.ref b224), .val (.int (q0.toInt32)), .val (.int (own_lu q0 (32 : Int32))), .val (.int (q1.toInt32)), .val (.int 1), .val (.int 2), .val (.int (own_x13 ((own_x16 (((own_mb (0 : Int32) (q0.toInt32)) ^^^ (own_scr ((own_lu q0 (32 : Int32)) &&& (65535 : Int32)))) ^^^ (6 : Int32))) * (-2048144789 : Int32)))), .val (.int (own_lu q0 (32 : Int32))), .val (.int (own_scr ((own_lu q0 (32 : Int32)) &&& (65535 : Int32))))] [(.int (-1028477387)), (.int (own_x13 ((own_x16 (((own_mb (0 : Int32) (q0.toInt32)) ^^^ (own_scr ((own_lu q0 (32 : Int32)) &&& (65535 : Int32)))) ^^^ (6 : Int32))) * (-2048144789 : Int32))))])) _
      refine own_imul X243.here hx (hb hby at_371) ?_
      refine own_istore X243.here hx (hb hby at_372) (l' := #[.val (.long q0), .second, .val (.long q1), .second, .val (.int p2), .val (.int 6), .val (.ref b224), .val (.int (q0.toInt32)), .val (.int (own_lu q0 (32 : Int32))), .val (.int (q1.toInt32)), .val (.int 1), .val (.int 2), .val (.int ((own_x13 ((own_x16 (((own_mb (0 : Int32) (q0.toInt32)) ^^^ (own_scr ((own_lu q0 (32 : Int32)) &&& (65535 : Int32)))) ^^^ (6 : Int32))) * (-2048144789 : Int32))) * (-1028477387 : Int32))), .val (.int (own_lu q0 (32 : Int32))), .val (.int (own_scr ((own_lu q0 (32 : Int32)) &&& (65535 : Int32))))]) rfl ?_
      refine own_iload X243.here hx (hb hby at_374) rfl ?_
      refine own_iload X243.here hx (hb hby at_376) rfl ?_
      refine own_bipush X243.here hx (16 : Int32) (hb hby at_378) rfl ?_
      refine own_iushr X243.here hx (hb hby at_380) ?_
      refine own_ixor X243.here hx (hb hby at_381) ?_
      show Steps p.tables e below (T243.setTop (mkF m 382 #[.val (.long q0), .second, .val (.long q1), .second, .val (.int p2), .val (.int 6), .val (.ref b224), .val (.int (q0.toInt32)), .val (.int (own_lu q0 (32 : Int32))), .val (.int (q1.toInt32)), .val (.int 1), .val (.int 2), .val (.int ((own_x13 ((own_x16 (((own_mb (0 : Int32) (q0.toInt32)) ^^^ (own_scr ((own_lu q0 (32 : Int32)) &&& (65535 : Int32)))) ^^^ (6 : Int32))) * (-2048144789 : Int32))) * (-1028477387 : Int32))), .val (.int (own_lu q0 (32 : Int32))), .val (.int (own_scr ((own_lu q0 (32 : Int32)) &&& (65535 : Int32))))] [(.int (own_fin (((own_mb (0 : Int32) (q0.toInt32)) ^^^ (own_scr ((own_lu q0 (32 : Int32)) &&& (65535 : Int32)))) ^^^ (6 : Int32))))])) _
      refine own_istore X243.here hx (hb hby at_382) (l' := #[.val (.long q0), .second, .val (.long q1), .second, .val (.int p2), .val (.int 6), .val (.ref b224), .val (.int (q0.toInt32)), .val (.int (own_lu q0 (32 : Int32))), .val (.int (q1.toInt32)), .val (.int 1), .val (.int 2), .val (.int (own_fin (((own_mb (0 : Int32) (q0.toInt32)) ^^^ (own_scr ((own_lu q0 (32 : Int32)) &&& (65535 : Int32)))) ^^^ (6 : Int32)))), .val (.int (own_lu q0 (32 : Int32))), .val (.int (own_scr ((own_lu q0 (32 : Int32)) &&& (65535 : Int32))))]) rfl ?_
      refine own_aload X243.here hx (hb hby at_384) rfl rfl ?_
      refine st244 _ ?_
      show Steps p.tables e below (T244.setTop (mkF m 389 #[.val (.long q0), .second, .val (.long q1), .second, .val (.int p2), .val (.int 6), .val (.ref b224), .val (.int (q0.toInt32)), .val (.int (own_lu q0 (32 : Int32))), .val (.int (q1.toInt32)), .val (.int 1), .val (.int 2), .val (.int (own_fin (((own_mb (0 : Int32) (q0.toInt32)) ^^^ (own_scr ((own_lu q0 (32 : Int32)) &&& (65535 : Int32)))) ^^^ (6 : Int32)))), .val (.int (own_lu q0 (32 : Int32))), .val (.int (own_scr ((own_lu q0 (32 : Int32)) &&& (65535 : Int32))))] [(.int (own_fin (((own_mb (0 : Int32) (own_blk (own_by (q0.toInt32)) (own_by (own_lu q0 (8 : Int32))) (own_by (own_lu q0 (16 : Int32))) (own_by (own_lu q0 (24 : Int32))))) ^^^ (own_scr (own_t2 (own_by (own_lu q0 (32 : Int32))) (own_by (own_lu q0 (40 : Int32)))))) ^^^ (6 : Int32))))])) _
      refine own_iload X244.here hx (hb hby at_389) rfl ?_
      refine own_icmpNo X244.here hx (hb hby at_391) (teq (by first | decide +kernel | simp only [own_blk0, own_blk1, own_t1e, own_t20, own_t21, own_t30, own_t31, own_scr0, Int32.xor_zero] : (own_fin (((own_mb (0 : Int32) (own_blk (own_by (q0.toInt32)) (own_by (own_lu q0 (8 : Int32))) (own_by (own_lu q0 (16 : Int32))) (own_by (own_lu q0 (24 : Int32))))) ^^^ (own_scr (own_t2 (own_by (own_lu q0 (32 : Int32))) (own_by (own_lu q0 (40 : Int32)))))) ^^^ (6 : Int32))) = (own_fin (((own_mb (0 : Int32) (q0.toInt32)) ^^^ (own_scr ((own_lu q0 (32 : Int32)) &&& (65535 : Int32)))) ^^^ (6 : Int32))))).2 ?_
      refine own_iconst X244.here hx (1 : Int32) (hb hby at_394) rfl ?_
      refine own_goto X244.here hx 395 399 rfl (hb hby at_395) (by decide) (by decide) ?_
      exact retN X244 hx (t := .boolean) Bd.returns (by simp) (hb hby at_399) hr
    · show Q0 Z q0 q1 p2 h0 n0 _ T244.heap _
      rw [e244]
      exact ⟨rfl, N244⟩
  · obtain ⟨T245, h245, k245, X245, e245, E245, A245, st245⟩ := newP X0 hx hZ (hw _ (List.mem_of_getElem? (i := 1) rfl)) e0 (g := (mkF m 12 #[.val (.long q0), .second, .val (.long q1), .second, .val (.int p2), .val (.int 7), .unset, .unset, .unset, .unset, .unset, .unset, .unset, .unset, .unset] [(.int 7)])) rfl (hb hby at_12) rfl (by decide) (cap := 7) (by decide) (by decide) (by decide) (by decide)
    obtain ⟨b245, g245⟩ : ∃ z, z = h0.size := ⟨_, rfl⟩
    rw [← g245] at A245 st245
    have E245' := E245
    have gg245 : n0 ≤ b245 := Nat.le_trans Z0 (Nat.le_of_eq g245.symm)
    have Z245 : n0 ≤ h245.size := Nat.le_trans Z0 E245.1
    have V245 : Arv Z h245 b245 k245 .byte (7 : Int32) [(.int 0), (.int 0), (.int 0), (.int 0), (.int 0), (.int 0), (.int 0)] (.int 0) := (Arv.new A245 (by decide)).pad (pad_rep [] (.int 0) 7)
    obtain ⟨cl246, Ar246, q246, S246, M246, H246, J246⟩ := id V245
    have hin246 : ¬ ((0 : Int32) < 0 ∨ cl246.slots.size ≤ ((0 : Int32)).toNatClampNeg) := inb_of S246 ⟨by decide, by decide⟩
    obtain ⟨T247, h247, X247, e247, W247, st247⟩ := stB X245 hx hZ e245 Ar246 (j := (0 : Int32)) hin246 (g := (mkF m 27 #[.val (.long q0), .second, .val (.long q1), .second, .val (.int p2), .val (.int 7), .val (.ref b245), .unset, .unset, .unset, .unset, .unset, .unset, .unset, .unset] [(.int ((q0.toInt32).toInt8.toInt32)), (.int 0), (.ref b245)])) rfl rfl (hb hby at_27)
    have V247 : Arv Z h247 b245 k245 .byte (7 : Int32) [(.int (own_by (q0.toInt32))), (.int 0), (.int 0), (.int 0), (.int 0), (.int 0), (.int 0)] (.int 0) := Arv.set Ar246 q246 S246 M246 H246 J246 (fits_nar_byte _) W247 0 rfl (Nat.le_of_ble_eq_true rfl)
    have N247 := Fr.snoc X247 N0 gg245
    have Z247 : n0 ≤ h247.size := Nat.le_trans Z245 (Keep.of_wr W247).1
    obtain ⟨cl249, Ar249, q249, S249, M249, H249, J249⟩ := id V247
    have hin249 : ¬ ((1 : Int32) < 0 ∨ cl249.slots.size ≤ ((1 : Int32)).toNatClampNeg) := inb_of S249 ⟨by decide, by decide⟩
    obtain ⟨T250, h250, X250, e250, W250, st250⟩ := stB X247 hx hZ e247 Ar249 (j := (1 : Int32)) hin249 (g := (mkF m 43 #[.val (.long q0), .second, .val (.long q1), .second, .val (.int p2), .val (.int 7), .val (.ref b245), .unset, .unset, .unset, .unset, .unset, .unset, .unset, .unset] [(.int ((own_lu q0 (8 : Int32)).toInt8.toInt32)), (.int 1), (.ref b245)])) rfl rfl (hb hby at_43)
    have V250 : Arv Z h250 b245 k245 .byte (7 : Int32) [(.int (own_by (q0.toInt32))), (.int (own_by (own_lu q0 (8 : Int32)))), (.int 0), (.int 0), (.int 0), (.int 0), (.int 0)] (.int 0) := Arv.set Ar249 q249 S249 M249 H249 J249 (fits_nar_byte _) W250 1 rfl (Nat.le_of_ble_eq_true rfl)
    have N250 := Fr.snoc X250 N247 gg245
    have Z250 : n0 ≤ h250.size := Nat.le_trans Z247 (Keep.of_wr W250).1
    obtain ⟨cl252, Ar252, q252, S252, M252, H252, J252⟩ := id V250
    have hin252 : ¬ ((2 : Int32) < 0 ∨ cl252.slots.size ≤ ((2 : Int32)).toNatClampNeg) := inb_of S252 ⟨by decide, by decide⟩
    obtain ⟨T253, h253, X253, e253, W253, st253⟩ := stB X250 hx hZ e250 Ar252 (j := (2 : Int32)) hin252 (g := (mkF m 59 #[.val (.long q0), .second, .val (.long q1), .second, .val (.int p2), .val (.int 7), .val (.ref b245), .unset, .unset, .unset, .unset, .unset, .unset, .unset, .unset] [(.int ((own_lu q0 (16 : Int32)).toInt8.toInt32)), (.int 2), (.ref b245)])) rfl rfl (hb hby at_59)
    have V253 : Arv Z h253 b245 k245 .byte (7 : Int32) [(.int (own_by (q0.toInt32))), (.int (own_by (own_lu q0 (8 : Int32)))), (.int (own_by (own_lu q0 (16 : Int32)))), (.int 0), (.int 0), (.int 0), (.int 0)] (.int 0) := Arv.set Ar252 q252 S252 M252 H252 J252 (fits_nar_byte _) W253 2 rfl (Nat.le_of_ble_eq_true rfl)
    have N253 := Fr.snoc X253 N250 gg245
    have Z253 : n0 ≤ h253.size := Nat.le_trans Z250 (Keep.of_wr W253).1
    obtain ⟨cl255, Ar255, q255, S255, M255, H255, J255⟩ := id V253
    have hin255 : ¬ ((3 : Int32) < 0 ∨ cl255.slots.size ≤ ((3 : Int32)).toNatClampNeg) := inb_of S255 ⟨by decide, by decide⟩
    obtain ⟨T256, h256, X256, e256, W256, st256⟩ := stB X253 hx hZ e253 Ar255 (j := (3 : Int32)) hin255 (g := (mkF m 75 #[.val (.long q0), .second, .val (.long q1), .second, .val (.int p2), .val (.int 7), .val (.ref b245), .unset, .unset, .unset, .unset, .unset, .unset, .unset, .unset] [(.int ((own_lu q0 (24 : Int32)).toInt8.toInt32)), (.int 3), (.ref b245)])) rfl rfl (hb hby at_75)
    have V256 : Arv Z h256 b245 k245 .byte (7 : Int32) [(.int (own_by (q0.toInt32))), (.int (own_by (own_lu q0 (8 : Int32)))), (.int (own_by (own_lu q0 (16 : Int32)))), (.int (own_by (own_lu q0 (24 : Int32)))), (.int 0), (.int 0), (.int 0)] (.int 0) := Arv.set Ar255 q255 S255 M255 H255 J255 (fits_nar_byte _) W256 3 rfl (Nat.le_of_ble_eq_true rfl)
    have N256 := Fr.snoc X256 N253 gg245
    have Z256 : n0 ≤ h256.size := Nat.le_trans Z253 (Keep.of_wr W256).1
    obtain ⟨cl258, Ar258, q258, S258, M258, H258, J258⟩ := id V256
    have hin258 : ¬ ((4 : Int32) < 0 ∨ cl258.slots.size ≤ ((4 : Int32)).toNatClampNeg) := inb_of S258 ⟨by decide, by decide⟩
    obtain ⟨T259, h259, X259, e259, W259, st259⟩ := stB X256 hx hZ e256 Ar258 (j := (4 : Int32)) hin258 (g := (mkF m 91 #[.val (.long q0), .second, .val (.long q1), .second, .val (.int p2), .val (.int 7), .val (.ref b245), .unset, .unset, .unset, .unset, .unset, .unset, .unset, .unset] [(.int ((own_lu q0 (32 : Int32)).toInt8.toInt32)), (.int 4), (.ref b245)])) rfl rfl (hb hby at_91)
    have V259 : Arv Z h259 b245 k245 .byte (7 : Int32) [(.int (own_by (q0.toInt32))), (.int (own_by (own_lu q0 (8 : Int32)))), (.int (own_by (own_lu q0 (16 : Int32)))), (.int (own_by (own_lu q0 (24 : Int32)))), (.int (own_by (own_lu q0 (32 : Int32)))), (.int 0), (.int 0)] (.int 0) := Arv.set Ar258 q258 S258 M258 H258 J258 (fits_nar_byte _) W259 4 rfl (Nat.le_of_ble_eq_true rfl)
    have N259 := Fr.snoc X259 N256 gg245
    have Z259 : n0 ≤ h259.size := Nat.le_trans Z256 (Keep.of_wr W259).1
    obtain ⟨cl261, Ar261, q261, S261, M261, H261, J261⟩ := id V259
    have hin261 : ¬ ((5 : Int32) < 0 ∨ cl261.slots.size ≤ ((5 : Int32)).toNatClampNeg) := inb_of S261 ⟨by decide, by decide⟩
    obtain ⟨T262, h262, X262, e262, W262, st262⟩ := stB X259 hx hZ e259 Ar261 (j := (5 : Int32)) hin261 (g := (mkF m 107 #[.val (.long q0), .second, .val (.long q1), .second, .val (.int p2), .val (.int 7), .val (.ref b245), .unset, .unset, .unset, .unset, .unset, .unset, .unset, .unset] [(.int ((own_lu q0 (40 : Int32)).toInt8.toInt32)), (.int 5), (.ref b245)])) rfl rfl (hb hby at_107)
    have V262 : Arv Z h262 b245 k245 .byte (7 : Int32) [(.int (own_by (q0.toInt32))), (.int (own_by (own_lu q0 (8 : Int32)))), (.int (own_by (own_lu q0 (16 : Int32)))), (.int (own_by (own_lu q0 (24 : Int32)))), (.int (own_by (own_lu q0 (32 : Int32)))), (.int (own_by (own_lu q0 (40 : Int32)))), (.int 0)] (.int 0) := Arv.set Ar261 q261 S261 M261 H261 J261 (fits_nar_byte _) W262 5 rfl (Nat.le_of_ble_eq_true rfl)
    have N262 := Fr.snoc X262 N259 gg245
    have Z262 : n0 ≤ h262.size := Nat.le_trans Z259 (Keep.of_wr W262).1
    obtain ⟨cl264, Ar264, q264, S264, M264, H264, J264⟩ := id V262
    have hin264 : ¬ ((6 : Int32) < 0 ∨ cl264.slots.size ≤ ((6 : Int32)).toNatClampNeg) := inb_of S264 ⟨by decide, by decide⟩
    obtain ⟨T265, h265, X265, e265, W265, st265⟩ := stB X262 hx hZ e262 Ar264 (j := (6 : Int32)) hin264 (g := (mkF m 125 #[.val (.long q0), .second, .val (.long q1), .second, .val (.int p2), .val (.int 7), .val (.ref b245), .unset, .unset, .unset, .unset, .unset, .unset, .unset, .unset] [(.int ((own_lu q0 (48 : Int32)).toInt8.toInt32)), (.int 6), (.ref b245)])) rfl rfl (hb hby at_125)
    have V265 : Arv Z h265 b245 k245 .byte (7 : Int32) [(.int (own_by (q0.toInt32))), (.int (own_by (own_lu q0 (8 : Int32)))), (.int (own_by (own_lu q0 (16 : Int32)))), (.int (own_by (own_lu q0 (24 : Int32)))), (.int (own_by (own_lu q0 (32 : Int32)))), (.int (own_by (own_lu q0 (40 : Int32)))), (.int (own_by (own_lu q0 (48 : Int32))))] (.int 0) := Arv.set Ar264 q264 S264 M264 H264 J264 (fits_nar_byte _) W265 6 rfl (Nat.le_of_ble_eq_true rfl)
    have N265 := Fr.snoc X265 N262 gg245
    have Z265 : n0 ≤ h265.size := Nat.le_trans Z262 (Keep.of_wr W265).1
    obtain ⟨_, _, ⟨T267, L267, k267, n267⟩, -, X267, ⟨Lc267, hQ267, l267, y267, z267⟩, st267⟩ := Jvm.LawKit.callS X265 hx (y := (⟨"com/example/forkline/forkline/bucketing/MurmurHash3Hash32PinLaw", "mixBlock", "(II)I"⟩ : MethodName)) hown (mvT hZ (hw _ (List.mem_of_getElem? (i := 22) rfl))) (mvT hZ (hw _ (List.mem_of_getElem? (i := 23) rfl))) (mvT hZ (hw _ (List.mem_of_getElem? (i := 24) rfl))) (mvT hZ (hw _ (List.mem_of_getElem? (i := 25) rfl))) (by decide) (backOf (W := 0) (rm4 l Z a0 hw [] (0 : Int32) (q0.toInt32) h265 n0 Z265) hZ (hw _ (List.mem_of_getElem? (i := 25) rfl)) (hw _ (List.mem_of_getElem? (i := 24) rfl)) (by decide) (by decide)) (g := (mkF m 235 #[.val (.long q0), .second, .val (.long q1), .second, .val (.int p2), .val (.int 7), .val (.ref b245), .val (.int (q0.toInt32)), .val (.int (own_lu q0 (32 : Int32))), .val (.int (q1.toInt32)), .val (.int 1), .val (.int 3), .val (.int 0), .unset, .unset] [(.int (q0.toInt32)), (.int 0)])) rfl (by rw [hml]; rfl) (argsL := [(.int 0), (.int (q0.toInt32))]) (rest := []) (lenOf pd_28II29I rfl) rfl (by show 2 * 0 + _ ≤ _; exact Nat.le_of_eq rfl) (hb hby at_235) (fun _ _ => ⟨rfl, e265, (by decide : 1 + 0 ≤ _), (by decide : 7 + 0 ≤ _)⟩)
    dsimp only [Pt.U, Pt.locs, Pt.cells, Pt.slots] at X267 l267 y267 z267 st267 hQ267
    subst l267 y267 z267
    obtain ⟨rfl, N267q, e267⟩ := hQ267
    have N267 := Fr.app N265 N267q
    obtain ⟨_, _, ⟨T268, L268, k268, n268⟩, -, X268, ⟨Lc268, hQ268, l268, y268, z268⟩, st268⟩ := Jvm.LawKit.callS X267 hx (y := (⟨"com/example/forkline/forkline/bucketing/MurmurHash3", "hash32", "([B)I"⟩ : MethodName)) hown (mvT hZ (hw _ (List.mem_of_getElem? (i := 4) rfl))) (mvT hZ (hw _ (List.mem_of_getElem? (i := 5) rfl))) (mvT hZ (hw _ (List.mem_of_getElem? (i := 6) rfl))) (mvT hZ (hw _ (List.mem_of_getElem? (i := 7) rfl))) (by decide) (backOf (W := 0) (rmH_7 l Z a0 hw [] b245 k245 (own_by (q0.toInt32)) (own_by (own_lu q0 (8 : Int32))) (own_by (own_lu q0 (16 : Int32))) (own_by (own_lu q0 (24 : Int32))) (own_by (own_lu q0 (32 : Int32))) (own_by (own_lu q0 (40 : Int32))) (own_by (own_lu q0 (48 : Int32))) h265 n0 Z265 V265) hZ (hw _ (List.mem_of_getElem? (i := 7) rfl)) (hw _ (List.mem_of_getElem? (i := 6) rfl)) (by decide) (by decide)) (g := (mkF m 386 #[.val (.long q0), .second, .val (.long q1), .second, .val (.int p2), .val (.int 7), .val (.ref b245), .val (.int (q0.toInt32)), .val (.int (own_lu q0 (32 : Int32))), .val (.int (q1.toInt32)), .val (.int 1), .val (.int 3), .val (.int (own_fin (((own_mb (0 : Int32) (q0.toInt32)) ^^^ (own_scr ((own_lu q0 (32 : Int32)) &&& (16777215 : Int32)))) ^^^ (7 : Int32)))), .val (.int (own_lu q0 (32 : Int32))), .val (.int (own_scr ((own_lu q0 (32 : Int32)) &&& (16777215 : Int32))))] [(.ref b245)])) rfl (by rw [hml]; rfl) (argsL := [(.ref b245)]) (rest := []) (lenOf pd_285bB29I rfl) rfl (by show 2 * 0 + _ ≤ _; exact Nat.le_of_eq rfl) (hb hby at_386) (fun _ _ => ⟨rfl, e267, (by decide : 1 + 0 ≤ _), (by decide : 7 + 0 ≤ _)⟩)
    dsimp only [Pt.U, Pt.locs, Pt.cells, Pt.slots] at X268 l268 y268 z268 st268 hQ268
    subst l268 y268 z268
    obtain ⟨rfl, N268q, e268⟩ := hQ268
    have N268 := Fr.app N267 N268q
    obtain ⟨fs, hr, hrun, hended, hW, hsame⟩ := X268.leave (v := some (.int 1)) (fun h => by rw [Bd.returns] at h; cases h)
    refine ⟨_, _, pre0 _ ?_, hrun, hended, _, _, rfl, ?_, ⟨_, rfl⟩, hW, hsame.mono (by decide) (by decide)⟩
    · refine G164 _ ?_
      rw [hn]
      refine own_iload X0.here hx (hb hby at_10) rfl ?_
      refine st245 _ ?_
      show Steps p.tables e below (T245.setTop (mkF m 14 #[.val (.long q0), .second, .val (.long q1), .second, .val (.int p2), .val (.int 7), .unset, .unset, .unset, .unset, .unset, .unset, .unset, .unset, .unset] [(.ref b245)])) _
      refine own_astore X245.here hx (hb hby at_14) rfl (l' := #[.val (.long q0), .second, .val (.long q1), .second, .val (.int p2), .val (.int 7), .val (.ref b245), .unset, .unset, .unset, .unset, .unset, .unset, .unset, .unset]) rfl ?_
      refine own_iload X245.here hx (hb hby at_16) rfl ?_
      refine own_ifNo X245.here hx (hb hby at_18) ((if0 _ _).trans (tlt (by decide : (0 : Int32) < (7 : Int32))).2.2.2) ?_
      refine own_aload X245.here hx (hb hby at_21) rfl rfl ?_
      refine own_iconst X245.here hx (0 : Int32) (hb hby at_23) rfl ?_
      refine own_lloadN X245.here hx (hb hby at_24) rfl ?_
      refine own_l2i X245.here hx (hb hby at_25) ?_
      refine own_i2b X245.here hx (hb hby at_26) ?_
      refine st247 _ ?_
      show Steps p.tables e below (T247.setTop (mkF m 28 #[.val (.long q0), .second, .val (.long q1), .second, .val (.int p2), .val (.int 7), .val (.ref b245), .unset, .unset, .unset, .unset, .unset, .unset, .unset, .unset] [])) _
      refine own_iload X247.here hx (hb hby at_28) rfl ?_
      refine own_iconst X247.here hx (1 : Int32) (hb hby at_30) rfl ?_
      refine own_icmpNo X247.here hx (hb hby at_31) (tlt (by decide : (1 : Int32) < (7 : Int32))).2.2.2 ?_
      refine own_aload X247.here hx (hb hby at_34) rfl rfl ?_
      refine own_iconst X247.here hx (1 : Int32) (hb hby at_36) rfl ?_
      refine own_lloadN X247.here hx (hb hby at_37) rfl ?_
      refine own_bipush X247.here hx (8 : Int32) (hb hby at_38) rfl ?_
      refine own_lushr X247.here hx (hb hby at_40) ?_
      refine own_l2i X247.here hx (hb hby at_41) ?_
      show Steps p.tables e below (T247.setTop (mkF m 42 #[.val (.long q0), .second, .val (.long q1), .second, .val (.int p2), .val (.int 7), .val (.ref b245), .unset, .unset, .unset, .unset, .unset, .unset, .unset, .unset] [(.int (own_lu q0 (8 : Int32))), (.int 1), (.ref b245)])) _
      refine own_i2b X247.here hx (hb hby at_42) ?_
      refine st250 _ ?_
      show Steps p.tables e below (T250.setTop (mkF m 44 #[.val (.long q0), .second, .val (.long q1), .second, .val (.int p2), .val (.int 7), .val (.ref b245), .unset, .unset, .unset, .unset, .unset, .unset, .unset, .unset] [])) _
      refine own_iload X250.here hx (hb hby at_44) rfl ?_
      refine own_iconst X250.here hx (2 : Int32) (hb hby at_46) rfl ?_
      refine own_icmpNo X250.here hx (hb hby at_47) (tlt (by decide : (2 : Int32) < (7 : Int32))).2.2.2 ?_
      refine own_aload X250.here hx (hb hby at_50) rfl rfl ?_
      refine own_iconst X250.here hx (2 : Int32) (hb hby at_52) rfl ?_
      refine own_lloadN X250.here hx (hb hby at_53) rfl ?_
      refine own_bipush X250.here hx (16 : Int32) (hb hby at_54) rfl ?_
      refine own_lushr X250.here hx (hb hby at_56) ?_
      refine own_l2i X250.here hx (hb hby at_57) ?_
      show Steps p.tables e below (T250.setTop (mkF m 58 #[.val (.long q0), .second, .val (.long q1), .second, .val (.int p2), .val (.int 7), .val (.ref b245), .unset, .unset, .unset, .unset, .unset, .unset, .unset, .unset] [(.int (own_lu q0 (16 : Int32))), (.int 2), (.ref b245)])) _
      refine own_i2b X250.here hx (hb hby at_58) ?_
      refine st253 _ ?_
      show Steps p.tables e below (T253.setTop (mkF m 60 #[.val (.long q0), .second, .val (.long q1), .second, .val (.int p2), .val (.int 7), .val (.ref b245), .unset, .unset, .unset, .unset, .unset, .unset, .unset, .unset] [])) _
      refine own_iload X253.here hx (hb hby at_60) rfl ?_
      refine own_iconst X253.here hx (3 : Int32) (hb hby at_62) rfl ?_
      refine own_icmpNo X253.here hx (hb hby at_63) (tlt (by decide : (3 : Int32) < (7 : Int32))).2.2.2 ?_
      refine own_aload X253.here hx (hb hby at_66) rfl rfl ?_
      refine own_iconst X253.here hx (3 : Int32) (hb hby at_68) rfl ?_
      refine own_lloadN X253.here hx (hb hby at_69) rfl ?_
      refine own_bipush X253.here hx (24 : Int32) (hb hby at_70) rfl ?_
      refine own_lushr X253.here hx (hb hby at_72) ?_
      refine own_l2i X253.here hx (hb hby at_73) ?_
      show Steps p.tables e below (T253.setTop (mkF m 74 #[.val (.long q0), .second, .val (.long q1), .second, .val (.int p2), .val (.int 7), .val (.ref b245), .unset, .unset, .unset, .unset, .unset, .unset, .unset, .unset] [(.int (own_lu q0 (24 : Int32))), (.int 3), (.ref b245)])) _
      refine own_i2b X253.here hx (hb hby at_74) ?_
      refine st256 _ ?_
      show Steps p.tables e below (T256.setTop (mkF m 76 #[.val (.long q0), .second, .val (.long q1), .second, .val (.int p2), .val (.int 7), .val (.ref b245), .unset, .unset, .unset, .unset, .unset, .unset, .unset, .unset] [])) _
      refine own_iload X256.here hx (hb hby at_76) rfl ?_
      refine own_iconst X256.here hx (4 : Int32) (hb hby at_78) rfl ?_
      refine own_icmpNo X256.here hx (hb hby at_79) (tlt (by decide : (4 : Int32) < (7 : Int32))).2.2.2 ?_
      refine own_aload X256.here hx (hb hby at_82) rfl rfl ?_
      refine own_iconst X256.here hx (4 : Int32) (hb hby at_84) rfl ?_
      refine own_lloadN X256.here hx (hb hby at_85) rfl ?_
      refine own_bipush X256.here hx (32 : Int32) (hb hby at_86) rfl ?_
      refine own_lushr X256.here hx (hb hby at_88) ?_
      refine own_l2i X256.here hx (hb hby at_89) ?_
      show Steps p.tables e below (T256.setTop (mkF m 90 #[.val (.long q0), .second, .val (.long q1), .second, .val (.int p2), .val (.int 7), .val (.ref b245), .unset, .unset, .unset, .unset, .unset, .unset, .unset, .unset] [(.int (own_lu q0 (32 : Int32))), (.int 4), (.ref b245)])) _
      refine own_i2b X256.here hx (hb hby at_90) ?_
      refine st259 _ ?_
      show Steps p.tables e below (T259.setTop (mkF m 92 #[.val (.long q0), .second, .val (.long q1), .second, .val (.int p2), .val (.int 7), .val (.ref b245), .unset, .unset, .unset, .unset, .unset, .unset, .unset, .unset] [])) _
      refine own_iload X259.here hx (hb hby at_92) rfl ?_
      refine own_iconst X259.here hx (5 : Int32) (hb hby at_94) rfl ?_
      refine own_icmpNo X259.here hx (hb hby at_95) (tlt (by decide : (5 : Int32) < (7 : Int32))).2.2.2 ?_
      refine own_aload X259.here hx (hb hby at_98) rfl rfl ?_
      refine own_iconst X259.here hx (5 : Int32) (hb hby at_100) rfl ?_
      refine own_lloadN X259.here hx (hb hby at_101) rfl ?_
      refine own_bipush X259.here hx (40 : Int32) (hb hby at_102) rfl ?_
      refine own_lushr X259.here hx (hb hby at_104) ?_
      refine own_l2i X259.here hx (hb hby at_105) ?_
      show Steps p.tables e below (T259.setTop (mkF m 106 #[.val (.long q0), .second, .val (.long q1), .second, .val (.int p2), .val (.int 7), .val (.ref b245), .unset, .unset, .unset, .unset, .unset, .unset, .unset, .unset] [(.int (own_lu q0 (40 : Int32))), (.int 5), (.ref b245)])) _
      refine own_i2b X259.here hx (hb hby at_106) ?_
      refine st262 _ ?_
      show Steps p.tables e below (T262.setTop (mkF m 108 #[.val (.long q0), .second, .val (.long q1), .second, .val (.int p2), .val (.int 7), .val (.ref b245), .unset, .unset, .unset, .unset, .unset, .unset, .unset, .unset] [])) _
      refine own_iload X262.here hx (hb hby at_108) rfl ?_
      refine own_bipush X262.here hx (6 : Int32) (hb hby at_110) rfl ?_
      refine own_icmpNo X262.here hx (hb hby at_112) (tlt (by decide : (6 : Int32) < (7 : Int32))).2.2.2 ?_
      refine own_aload X262.here hx (hb hby at_115) rfl rfl ?_
      refine own_bipush X262.here hx (6 : Int32) (hb hby at_117) rfl ?_
      refine own_lloadN X262.here hx (hb hby at_119) rfl ?_
      refine own_bipush X262.here hx (48 : Int32) (hb hby at_120) rfl ?_
      refine own_lushr X262.here hx (hb hby at_122) ?_
      refine own_l2i X262.here hx (hb hby at_123) ?_
      show Steps p.tables e below (T262.setTop (mkF m 124 #[.val (.long q0), .second, .val (.long q1), .second, .val (.int p2), .val (.int 7), .val (.ref b245), .unset, .unset, .unset, .unset, .unset, .unset, .unset, .unset] [(.int (own_lu q0 (48 : Int32))), (.int 6), (.ref b245)])) _
      refine own_i2b X262.here hx (hb hby at_124) ?_
      refine st265 _ ?_
      show Steps p.tables e below (T265.setTop (mkF m 126 #[.val (.long q0), .second, .val (.long q1), .second, .val (.int p2), .val (.int 7), .val (.ref b245), .unset, .unset, .unset, .unset, .unset, .unset, .unset, .unset] [])) _
      refine own_iload X265.here hx (hb hby at_126) rfl ?_
      refine own_bipush X265.here hx (7 : Int32) (hb hby at_128) rfl ?_
      refine own_icmpYes X265.here hx 130 144 rfl (hb hby at_130) (flt (by decide : ¬ ((7 : Int32) < (7 : Int32)))).2.2.2 (by decide) (by decide) ?_
      refine own_iload X265.here hx (hb hby at_144) rfl ?_
      refine own_bipush X265.here hx (8 : Int32) (hb hby at_146) rfl ?_
      refine own_icmpYes X265.here hx 148 159 rfl (hb hby at_148) (flt (by decide : ¬ ((8 : Int32) < (7 : Int32)))).2.2.2 (by decide) (by decide) ?_
      refine own_iload X265.here hx (hb hby at_159) rfl ?_
      refine own_bipush X265.here hx (9 : Int32) (hb hby at_161) rfl ?_
      refine own_icmpYes X265.here hx 163 177 rfl (hb hby at_163) (flt (by decide : ¬ ((9 : Int32) < (7 : Int32)))).2.2.2 (by decide) (by decide) ?_
      refine own_iload X265.here hx (hb hby at_177) rfl ?_
      refine own_bipush X265.here hx (10 : Int32) (hb hby at_179) rfl ?_
      refine own_icmpYes X265.here hx 181 195 rfl (hb hby at_181) (flt (by decide : ¬ ((10 : Int32) < (7 : Int32)))).2.2.2 (by decide) (by decide) ?_
      refine own_lloadN X265.here hx (hb hby at_195) rfl ?_
      refine own_l2i X265.here hx (hb hby at_196) ?_
      refine own_istore X265.here hx (hb hby at_197) (l' := #[.val (.long q0), .second, .val (.long q1), .second, .val (.int p2), .val (.int 7), .val (.ref b245), .val (.int (q0.toInt32)), .unset, .unset, .unset, .unset, .unset, .unset, .unset]) rfl ?_
      refine own_lloadN X265.here hx (hb hby at_199) rfl ?_
      refine own_bipush X265.here hx (32 : Int32) (hb hby at_200) rfl ?_
      refine own_lushr X265.here hx (hb hby at_202) ?_
      refine own_l2i X265.here hx (hb hby at_203) ?_
      show Steps p.tables e below (T265.setTop (mkF m 204 #[.val (.long q0), .second, .val (.long q1), .second, .val (.int p2), .val (.int 7), .val (.ref b245), .val (.int (q0.toInt32)), .unset, .unset, .unset, .unset, .unset, .unset, .unset] [(.int (own_lu q0 (32 : Int32)))])) _
      refine own_istore X265.here hx (hb hby at_204) (l' := #[.val (.long q0), .second, .val (.long q1), .second, .val (.int p2), .val (.int 7), .val (.ref b245), .val (.int (q0.toInt32)), .val (.int (own_lu q0 (32 : Int32))), .unset, .unset, .unset, .unset, .unset, .unset]) rfl ?_
      refine own_lloadN X265.here hx (hb hby at_206) rfl ?_
      refine own_l2i X265.here hx (hb hby at_207) ?_
      refine own_istore X265.here hx (hb hby at_208) (l' := #[.val (.long q0), .second, .val (.long q1), .second, .val (.int p2), .val (.int 7), .val (.ref b245), .val (.int (q0.toInt32)), .val (.int (own_lu q0 (32 : Int32))), .val (.int (q1.toInt32)), .unset, .unset, .unset, .unset, .unset]) rfl ?_
      refine own_iload X265.here hx (hb hby at_210) rfl ?_
      refine own_iconst X265.here hx (4 : Int32) (hb hby at_212) rfl ?_
      refine own_idiv X265.here hx (hb hby at_213) (by decide) ?_
      show Steps p.tables e below (T265.setTop (mkF m 214 #[.val (.long q0), .second, .val (.long q1), .second, .val (.int p2), .val (.int 7), .val (.ref b245), .val (.int (q0.toInt32)), .val (.int (own_lu q0 (32 : Int32))), .val (.int (q1.toInt32)), .unset, .unset, .unset, .unset, .unset] [(.int 1)])) _
      refine own_istore X265.here hx (hb hby at_214) (l' := #[.val (.long q0), .second, .val (.long q1), .second, .val (.int p2), .val (.int 7), .val (.ref b245), .val (.int (q0.toInt32)), .val (.int (own_lu q0 (32 : Int32))), .val (.int (q1.toInt32)), .val (.int 1), .unset, .unset, .unset, .unset]) rfl ?_
      refine own_iload X265.here hx (hb hby at_216) rfl ?_
      refine own_iconst X265.here hx (4 : Int32) (hb hby at_218) rfl ?_
      refine own_irem X265.here hx (hb hby at_219) (by decide) ?_
      show Steps p.tables e below (T265.setTop (mkF m 220 #[.val (.long q0), .second, .val (.long q1), .second, .val (.int p2), .val (.int 7), .val (.ref b245), .val (.int (q0.toInt32)), .val (.int (own_lu q0 (32 : Int32))), .val (.int (q1.toInt32)), .val (.int 1), .unset, .unset, .unset, .unset] [(.int 3)])) _
      refine own_istore X265.here hx (hb hby at_220) (l' := #[.val (.long q0), .second, .val (.long q1), .second, .val (.int p2), .val (.int 7), .val (.ref b245), .val (.int (q0.toInt32)), .val (.int (own_lu q0 (32 : Int32))), .val (.int (q1.toInt32)), .val (.int 1), .val (.int 3), .unset, .unset, .unset]) rfl ?_
      refine own_iconst X265.here hx (0 : Int32) (hb hby at_222) rfl ?_
      refine own_istore X265.here hx (hb hby at_223) (l' := #[.val (.long q0), .second, .val (.long q1), .second, .val (.int p2), .val (.int 7), .val (.ref b245), .val (.int (q0.toInt32)), .val (.int (own_lu q0 (32 : Int32))), .val (.int (q1.toInt32)), .val (.int 1), .val (.int 3), .val (.int 0), .unset, .unset]) rfl ?_
      refine own_iload X265.here hx (hb hby at_225) rfl ?_
      refine own_iconst X265.here hx (1 : Int32) (hb hby at_227) rfl ?_
      refine own_icmpNo X265.here hx (hb hby at_228) (flt (by decide : ¬ ((1 : Int32) < (1 : Int32)))).1 ?_
      refine own_iload X265.here hx (hb hby at_231) rfl ?_
      refine own_iload X265.here hx (hb hby at_233) rfl ?_
      refine st267 _ ?_
      show Steps p.tables e below (T267.setTop (mkF m 238 #[.val (.long q0), .second, .val (.long q1), .second, .val (.int p2), .val (.int 7), .val (.ref b245), .val (.int (q0.toInt32)), .val (.int (own_lu q0 (32 : Int32))), .val (.int (q1.toInt32)), .val (.int 1), .val (.int 3), .val (.int 0), .unset, .unset] [(.int (own_mb (0 : Int32) (q0.toInt32)))])) _
      refine own_istore X267.here hx (hb hby at_238) (l' := #[.val (.long q0), .second, .val (.long q1), .second, .val (.int p2), .val (.int 7), .val (.ref b245), .val (.int (q0.toInt32)), .val (.int (own_lu q0 (32 : Int32))), .val (.int (q1.toInt32)), .val (.int 1), .val (.int 3), .val (.int (own_mb (0 : Int32) (q0.toInt32))), .unset, .unset]) rfl ?_
      refine own_iload X267.here hx (hb hby at_240) rfl ?_
      refine own_iconst X267.here hx (2 : Int32) (hb hby at_242) rfl ?_
      refine own_icmpYes X267.here hx 243 255 rfl (hb hby at_243) (tlt (by decide : (1 : Int32) < (2 : Int32))).1 (by decide) (by decide) ?_
      refine own_iload X267.here hx (hb hby at_255) rfl ?_
      refine own_ifYes X267.here hx 257 265 rfl (hb hby at_257) ((if0 _ _).trans (feq (by decide : ¬ ((1 : Int32) = (0 : Int32)))).2) (by decide) (by decide) ?_
      refine own_iload X267.here hx (hb hby at_265) rfl ?_
      refine own_iconst X267.here hx (1 : Int32) (hb hby at_267) rfl ?_
      refine own_icmpNo X267.here hx (hb hby at_268) (teq (by decide : (1 : Int32) = (1 : Int32))).2 ?_
      refine own_iload X267.here hx (hb hby at_271) rfl ?_
      refine own_goto X267.here hx 273 278 rfl (hb hby at_273) (by decide) (by decide) ?_
      refine own_istore X267.here hx (hb hby at_278) (l' := #[.val (.long q0), .second, .val (.long q1), .second, .val (.int p2), .val (.int 7), .val (.ref b245), .val (.int (q0.toInt32)), .val (.int (own_lu q0 (32 : Int32))), .val (.int (q1.toInt32)), .val (.int 1), .val (.int 3), .val (.int (own_mb (0 : Int32) (q0.toInt32))), .val (.int (own_lu q0 (32 : Int32))), .unset]) rfl ?_
      refine own_iload X267.here hx (hb hby at_280) rfl ?_
      refine own_ifNo X267.here hx (hb hby at_282) ((if0 _ _).trans (tlt (by decide : (0 : Int32) < (3 : Int32))).2.2.2) ?_
      refine own_iload X267.here hx (hb hby at_285) rfl ?_
      refine own_iconst X267.here hx (1 : Int32) (hb hby at_287) rfl ?_
      refine own_bipush X267.here hx (8 : Int32) (hb hby at_288) rfl ?_
      refine own_iload X267.here hx (hb hby at_290) rfl ?_
      refine own_imul X267.here hx (hb hby at_292) ?_
      show Steps p.tables e below (T267.setTop (mkF m 293 #[.val (.long q0), .second, .val (.long q1), .second, .val (.int p2), .val (.int 7), .val (.ref b245), .val (.int (q0.toInt32)), .val (.int (own_lu q0 (32 : Int32))), .val (.int (q1.toInt32)), .val (.int 1), .val (.int 3), .val (.int (own_mb (0 : Int32) (q0.toInt32))), .val (.int (own_lu q0 (32 : Int32))), .unset] [(.int 24), (.int 1), (.int (own_lu q0 (32 : Int32)))])) _
      refine own_ishl X267.here hx (hb hby at_293) ?_
      show Steps p.tables e below (T267.setTop (mkF m 294 #[.val (.long q0), .second, .val (.long q1), .second, .val (.int p2), .val (.int 7), .val (.ref b245), .val (.int (q0.toInt32)), .val (.int (own_lu q0 (32 : Int32))), .val (.int (q1.toInt32)), .val (.int 1), .val (.int 3), .val (.int (own_mb (0 : Int32) (q0.toInt32))), .val (.int (own_lu q0 (32 : Int32))), .unset] [(.int 16777216), (.int (own_lu q0 (32 : Int32)))])) _
      refine own_iconst X267.here hx (1 : Int32) (hb hby at_294) rfl ?_
      refine own_isub X267.here hx (hb hby at_295) ?_
      show Steps p.tables e below (T267.setTop (mkF m 296 #[.val (.long q0), .second, .val (.long q1), .second, .val (.int p2), .val (.int 7), .val (.ref b245), .val (.int (q0.toInt32)), .val (.int (own_lu q0 (32 : Int32))), .val (.int (q1.toInt32)), .val (.int 1), .val (.int 3), .val (.int (own_mb (0 : Int32) (q0.toInt32))), .val (.int (own_lu q0 (32 : Int32))), .unset] [(.int 16777215), (.int (own_lu q0 (32 : Int32)))])) _
      refine own_iand X267.here hx (hb hby at_296) ?_
      show Steps p.tables e below (T267.setTop (mkF m 297 #[.val (.long q0), .second, .val (.long q1), .second, .val (.int p2), .val (.int 7), .val (.ref b245), .val (.int (q0.toInt32)), .val (.int (own_lu q0 (32 : Int32))), .val (.int (q1.toInt32)), .val (.int 1), .val (.int 3), .val (.int (own_mb (0 : Int32) (q0.toInt32))), .val (.int (own_lu q0 (32 : Int32))), .unset] [(.int ((own_lu q0 (32 : Int32)) &&& (16777215 : Int32)))])) _
      refine own_istore X267.here hx (hb hby at_297) (l' := #[.val (.long q0), .second, .val (.long q1), .second, .val (.int p2), .val (.int 7), .val (.ref b245), .val (.int (q0.toInt32)), .val (.int (own_lu q0 (32 : Int32))), .val (.int (q1.toInt32)), .val (.int 1), .val (.int 3), .val (.int (own_mb (0 : Int32) (q0.toInt32))), .val (.int (own_lu q0 (32 : Int32))), .val (.int ((own_lu q0 (32 : Int32)) &&& (16777215 : Int32)))]) rfl ?_
      refine own_iload X267.here hx (hb hby at_299) rfl ?_
      refine X267.ldcInt hx hown (mvT hZ (hw _ (List.mem_of_getElem? (i := 26) rfl))) (g := (mkF m 301 #[.val (.long q0), .second, .val (.long q1), .second, .val (.int p2), .val (.int 7), .val (.ref b245), .val (.int (q0.toInt32)), .val (.int (own_lu q0 (32 : Int32))), .val (.int (q1.toInt32)), .val (.int 1), .val (.int 3), .val (.int (own_mb (0 : Int32) (q0.toInt32))), .val (.int (own_lu q0 (32 : Int32))), .val (.int ((own_lu q0 (32 : Int32)) &&& (16777215 : Int32)))] [(.int ((own_lu q0 (32 : Int32)) &&& (16777215 : Int32)))])) rfl (hb hby at_301) _ ?_
      show Steps p.tables e below (T267.setTop (mkF m 303 #[.val (.long q0), .second, .val (.long q1), .second, .val (.int p2), .val (.int 7), .val (.ref b245), .val (.int (q0.toInt32)), .val (.int (own_lu q0 (32 : Int32))), .val (.int (q1.toInt32)), .val (.int 1), .val (.int 3), .val (.int (own_mb (0 : Int32) (q0.toInt32))), .val (.int (own_lu q0 (32 : Int32))), .val (.int ((own_lu q0 (32 : Int32)) &&& (16777215 : Int32)))] [(.int (-862048943)), (.int ((own_lu q0 (32 : Int32)) &&& (16777215 : Int32)))])) _
      refine own_imul X267.here hx (hb hby at_303) ?_
      refine own_istore X267.here hx (hb hby at_304) (l' := #[.val (.long q0), .second, .val (.long q1), .second, .val (.int p2), .val (.int 7), .val (.ref b245), .val (.int (q0.toInt32)), .val (.int (own_lu q0 (32 : Int32))), .val (.int (q1.toInt32)), .val (.int 1), .val (.int 3), .val (.int (own_mb (0 : Int32) (q0.toInt32))), .val (.int (own_lu q0 (32 : Int32))), .val (.int (((own_lu q0 (32 : Int32)) &&& (16777215 : Int32)) * (-862048943 : Int32)))]) rfl ?_
      refine own_iload X267.here hx (hb hby at_306) rfl ?_
      refine own_bipush X267.here hx (15 : Int32) (hb hby at_308) rfl ?_
      refine own_ishl X267.here hx (hb hby at_310) ?_
      refine own_iload X267.here hx (hb hby at_311) rfl ?_
      refine own_bipush X267.here hx (17 : Int32) (hb hby at_313) rfl ?_
      refine own_iushr X267.here hx (hb hby at_315) ?_
      refine own_ior X267.here hx (hb hby at_316) ?_
      show Steps p.tables e below (T267.setTop (mkF m 317 #[.val (.long q0), .second, .val (.long q1), .second, .val (.int p2), .val (.int 7), .val (.ref b245), .val (.int (q0.toInt32)), .val (.int (own_lu q0 (32 : Int32))), .val (.int (q1.toInt32)), .val (.int 1), .val (.int 3), .val (.int (own_mb (0 : Int32) (q0.toInt32))), .val (.int (own_lu q0 (32 : Int32))), .val (.int (((own_lu q0 (32 : Int32)) &&& (16777215 : Int32)) * (-862048943 : Int32)))] [(.int (own_rotl (((own_lu q0 (32 : Int32)) &&& (16777215 : Int32)) * (-862048943 : Int32)) (15 : Int32)))])) _
      refine own_istore X267.here hx (hb hby at_317) (l' := #[.val (.long q0), .second, .val (.long q1), .second, .val (.int p2), .val (.int 7), .val (.ref b245), .val (.int (q0.toInt32)), .val (.int (own_lu q0 (32 : Int32))), .val (.int (q1.toInt32)), .val (.int 1), .val (.int 3), .val (.int (own_mb (0 : Int32) (q0.toInt32))), .val (.int (own_lu q0 (32 : Int32))), .val (.int (own_rotl (((own_lu q0 (32 : Int32)) &&& (16777215 : Int32)) * (-862048943 : Int32)) (15 : Int32)))]) rfl ?_
      refine own_iload X267.here hx (hb hby at_319) rfl ?_
      refine X267.ldcInt hx hown (mvT hZ (hw _ (List.mem_of_getElem? (i := 27) rfl))) (g := (mkF m 321 #[.val (.long q0), .second, .val (.long q1), .second, .val (.int p2), .val (.int 7), .val (.ref b245), .val (.int (q0.toInt32)), .val (.int (own_lu q0 (32 : Int32))), .val (.int (q1.toInt32)), .val (.int 1), .val (.int 3), .val (.int (own_mb (0 : Int32) (q0.toInt32))), .val (.int (own_lu q0 (32 : Int32))), .val (.int (own_rotl (((own_lu q0 (32 : Int32)) &&& (16777215 : Int32)) * (-862048943 : Int32)) (15 : Int32)))] [(.int (own_rotl (((own_lu q0 (32 : Int32)) &&& (16777215 : Int32)) * (-862048943 : Int32)) (15 : Int32)))])) rfl (hb hby at_321) _ ?_
      show Steps p.tables e below (T267.setTop (mkF m 323 #[.val (.long q0), .second, .val (.long q1), .second, .val (.int p2), .val (.int 7), .val (.ref b245), .val (.int (q0.toInt32)), .val (.int (own_lu q0 (32 : Int32))), .val (.int (q1.toInt32)), .val (.int 1), .val (.int 3), .val (.int (own_mb (0 : Int32) (q0.toInt32))), .val (.int (own_lu q0 (32 : Int32))), .val (.int (own_rotl (((own_lu q0 (32 : Int32)) &&& (16777215 : Int32)) * (-862048943 : Int32)) (15 : Int32)))] [(.int 461845907), (.int (own_rotl (((own_lu q0 (32 : Int32)) &&& (16777215 : Int32)) * (-862048943 : Int32)) (15 : Int32)))])) _
      refine own_imul X267.here hx (hb hby at_323) ?_
      show Steps p.tables e below (T267.setTop (mkF m 324 #[.val (.long q0), .second, .val (.long q1), .second, .val (.int p2), .val (.int 7), .val (.ref b245), .val (.int (q0.toInt32)), .val (.int (own_lu q0 (32 : Int32))), .val (.int (q1.toInt32)), .val (.int 1), .val (.int 3), .val (.int (own_mb (0 : Int32) (q0.toInt32))), .val (.int (own_lu q0 (32 : Int32))), .val (.int (own_rotl (((own_lu q0 (32 : Int32)) &&& (16777215 : Int32)) * (-862048943 : Int32)) (15 : Int32)))] [(.int (own_scr ((own_lu q0 (32 : Int32)) &&& (16777215 : Int32))))])) _
      refine own_istore X267.here hx (hb hby at_324) (l' := #[.val (.long q0), .second, .val (.long q1), .second, .val (.int p2), .val (.int 7), .val (.ref b245), .val (.int (q0.toInt32)), .val (.int (own_lu q0 (32 : Int32))), .val (.int (q1.toInt32)), .val (.int 1), .val (.int 3), .val (.int (own_mb (0 : Int32) (q0.toInt32))), .val (.int (own_lu q0 (32 : Int32))), .val (.int (own_scr ((own_lu q0 (32 : Int32)) &&& (16777215 : Int32))))]) rfl ?_
      refine own_iload X267.here hx (hb hby at_326) rfl ?_
      refine own_iload X267.here hx (hb hby at_328) rfl ?_
      refine own_ixor X267.here hx (hb hby at_330) ?_
      refine own_istore X267.here hx (hb hby at_331) (l' := #[.val (.long q0), .second, .val (.long q1), .second, .val (.int p2), .val (.int 7), .val (.ref b245), .val (.int (q0.toInt32)), .val (.int (own_lu q0 (32 : Int32))), .val (.int (q1.toInt32)), .val (.int 1), .val (.int 3), .val (.int ((own_mb (0 : Int32) (q0.toInt32)) ^^^ (own_scr ((own_lu q0 (32 : Int32)) &&& (16777215 : Int32))))), .val (.int (own_lu q0 (32 : Int32))), .val (.int (own_scr ((own_lu q0 (32 : Int32)) &&& (16777215 : Int32))))]) rfl ?_
      refine own_iload X267.here hx (hb hby at_333) rfl ?_
      refine own_iload X267.here hx (hb hby at_335) rfl ?_
      refine own_ixor X267.here hx (hb hby at_337) ?_
      refine own_istore X267.here hx (hb hby at_338) (l' := #[.val (.long q0), .second, .val (.long q1), .second, .val (.int p2), .val (.int 7), .val (.ref b245), .val (.int (q0.toInt32)), .val (.int (own_lu q0 (32 : Int32))), .val (.int (q1.toInt32)), .val (.int 1), .val (.int 3), .val (.int (((own_mb (0 : Int32) (q0.toInt32)) ^^^ (own_scr ((own_lu q0 (32 : Int32)) &&& (16777215 : Int32)))) ^^^ (7 : Int32))), .val (.int (own_lu q0 (32 : Int32))), .val (.int (own_scr ((own_lu q0 (32 : Int32)) &&& (16777215 : Int32))))]) rfl ?_
      refine own_iload X267.here hx (hb hby at_340) rfl ?_
      refine own_iload X267.here hx (hb hby at_342) rfl ?_
      refine own_bipush X267.here hx (16 : Int32) (hb hby at_344) rfl ?_
      refine own_iushr X267.here hx (hb hby at_346) ?_
      refine own_ixor X267.here hx (hb hby at_347) ?_
      show Steps p.tables e below (T267.setTop (mkF m 348 #[.val (.long q0), .second, .val (.long q1), .second, .val (.int p2), .val (.int 7), .val (.ref b245), .val (.int (q0.toInt32)), .val (.int (own_lu q0 (32 : Int32))), .val (.int (q1.toInt32)), .val (.int 1), .val (.int 3), .val (.int (((own_mb (0 : Int32) (q0.toInt32)) ^^^ (own_scr ((own_lu q0 (32 : Int32)) &&& (16777215 : Int32)))) ^^^ (7 : Int32))), .val (.int (own_lu q0 (32 : Int32))), .val (.int (own_scr ((own_lu q0 (32 : Int32)) &&& (16777215 : Int32))))] [(.int (own_x16 (((own_mb (0 : Int32) (q0.toInt32)) ^^^ (own_scr ((own_lu q0 (32 : Int32)) &&& (16777215 : Int32)))) ^^^ (7 : Int32))))])) _
      refine own_istore X267.here hx (hb hby at_348) (l' := #[.val (.long q0), .second, .val (.long q1), .second, .val (.int p2), .val (.int 7), .val (.ref b245), .val (.int (q0.toInt32)), .val (.int (own_lu q0 (32 : Int32))), .val (.int (q1.toInt32)), .val (.int 1), .val (.int 3), .val (.int (own_x16 (((own_mb (0 : Int32) (q0.toInt32)) ^^^ (own_scr ((own_lu q0 (32 : Int32)) &&& (16777215 : Int32)))) ^^^ (7 : Int32)))), .val (.int (own_lu q0 (32 : Int32))), .val (.int (own_scr ((own_lu q0 (32 : Int32)) &&& (16777215 : Int32))))]) rfl ?_
      refine own_iload X267.here hx (hb hby at_350) rfl ?_
      refine X267.ldcInt hx hown (mvT hZ (hw _ (List.mem_of_getElem? (i := 2) rfl))) (g := (mkF m 352 #[.val (.long q0), .second, .val (.long q1), .second, .val (.int p2), .val (.int 7), .val (.ref b245), .val (.int (q0.toInt32)), .val (.int (own_lu q0 (32 : Int32))), .val (.int (q1.toInt32)), .val (.int 1), .val (.int 3), .val (.int (own_x16 (((own_mb (0 : Int32) (q0.toInt32)) ^^^ (own_scr ((own_lu q0 (32 : Int32)) &&& (16777215 : Int32)))) ^^^ (7 : Int32)))), .val (.int (own_lu q0 (32 : Int32))), .val (.int (own_scr ((own_lu q0 (32 : Int32)) &&& (16777215 : Int32))))] [(.int (own_x16 (((own_mb (0 : Int32) (q0.toInt32)) ^^^ (own_scr ((own_lu q0 (32 : Int32)) &&& (16777215 : Int32)))) ^^^ (7 : Int32))))])) rfl (hb hby at_352) _ ?_
      show Steps p.tables e below (T267.setTop (mkF m 354 #[.val (.long q0), .second, .val (.long q1), .second, .val (.int p2), .val (.int 7), .val (.ref b245), .val (.int (q0.toInt32)), .val (.int (own_lu q0 (32 : Int32))), .val (.int (q1.toInt32)), .val (.int 1), .val (.int 3), .val (.int (own_x16 (((own_mb (0 : Int32) (q0.toInt32)) ^^^ (own_scr ((own_lu q0 (32 : Int32)) &&& (16777215 : Int32)))) ^^^ (7 : Int32)))), .val (.int (own_lu q0 (32 : Int32))), .val (.int (own_scr ((own_lu q0 (32 : Int32)) &&& (16777215 : Int32))))] [(.int (-2048144789)), (.int (own_x16 (((own_mb (0 : Int32) (q0.toInt32)) ^^^ (own_scr ((own_lu q0 (32 : Int32)) &&& (16777215 : Int32)))) ^^^ (7 : Int32))))])) _
      refine own_imul X267.here hx (hb hby at_354) ?_
      refine own_istore X267.here hx (hb hby at_355) (l' := #[.val (.long q0), .second, .val (.long q1), .second, .val (.int p2), .val (.int 7), .val (.ref b245), .val (.int (q0.toInt32)), .val (.int (own_lu q0 (32 : Int32))), .val (.int (q1.toInt32)), .val (.int 1), .val (.int 3), .val (.int ((own_x16 (((own_mb (0 : Int32) (q0.toInt32)) ^^^ (own_scr ((own_lu q0 (32 : Int32)) &&& (16777215 : Int32)))) ^^^ (7 : Int32))) * (-2048144789 : Int32))), .val (.int (own_lu q0 (32 : Int32))), .val (.int (own_scr ((own_lu q0 (32 : Int32)) &&& (16777215 : Int32))))]) rfl ?_
      refine own_iload X267.here hx (hb hby at_357) rfl ?_
      refine own_iload X267.here hx (hb hby at_359) rfl ?_
      refine own_bipush X267.here hx (13 : Int32) (hb hby at_361) rfl ?_
      refine own_iushr X267.here hx (hb hby at_363) ?_
      refine own_ixor X267.here hx (hb hby at_364) ?_
      show Steps p.tables e below (T267.setTop (mkF m 365 #[.val (.long q0), .second, .val (.long q1), .second, .val (.int p2), .val (.int 7), .val (.ref b245), .val (.int (q0.toInt32)), .val (.int (own_lu q0 (32 : Int32))), .val (.int (q1.toInt32)), .val (.int 1), .val (.int 3), .val (.int ((own_x16 (((own_mb (0 : Int32) (q0.toInt32)) ^^^ (own_scr ((own_lu q0 (32 : Int32)) &&& (16777215 : Int32)))) ^^^ (7 : Int32))) * (-2048144789 : Int32))), .val (.int (own_lu q0 (32 : Int32))), .val (.int (own_scr ((own_lu q0 (32 : Int32)) &&& (16777215 : Int32))))] [(.int (own_x13 ((own_x16 (((own_mb (0 : Int32) (q0.toInt32)) ^^^ (own_scr ((own_lu q0 (32 : Int32)) &&& (16777215 : Int32)))) ^^^ (7 : Int32))) * (-2048144789 : Int32))))])) _
      refine own_istore X267.here hx (hb hby at_365) (l' := #[.val (.long q0), .second, .val (.long q1), .second, .val (.int p2), .val (.int 7), .val (.ref b245), .val (.int (q0.toInt32)), .val (.int (own_lu q0 (32 : Int32))), .val (.int (q1.toInt32)), .val (.int 1), .val (.int 3), .val (.int (own_x13 ((own_x16 (((own_mb (0 : Int32) (q0.toInt32)) ^^^ (own_scr ((own_lu q0 (32 : Int32)) &&& (16777215 : Int32)))) ^^^ (7 : Int32))) * (-2048144789 : Int32)))), .val (.int (own_lu q0 (32 : Int32))), .val (.int (own_scr ((own_lu q0 (32 : Int32)) &&& (16777215 : Int32))))]) rfl ?_
      refine own_iload X267.here hx (hb hby at_367) rfl ?_
      refine X267.ldcInt hx hown (mvT hZ (hw _ (List.mem_of_getElem? (i := 3) rfl))) (g := (mkF m 369 #[.val (.long q0), .second, .val (.long q1), .second, .val (.int p2), .val (.int 7), .val (.ref b245), .val (.int (q0.toInt32)), .val (.int (own_lu q0 (32 : Int32))), .val (.int (q1.toInt32)), .val (.int 1), .val (.int 3), .val (.int (own_x13 ((own_x16 (((own_mb (0 : Int32) (q0.toInt32)) ^^^ (own_scr ((own_lu q0 (32 : Int32)) &&& (16777215 : Int32)))) ^^^ (7 : Int32))) * (-2048144789 : Int32)))), .val (.int (own_lu q0 (32 : Int32))), .val (.int (own_scr ((own_lu q0 (32 : Int32)) &&& (16777215 : Int32))))] [(.int (own_x13 ((own_x16 (((own_mb (0 : Int32) (q0.toInt32)) ^^^ (own_scr ((own_lu q0 (32 : Int32)) &&& (16777215 : Int32)))) ^^^ (7 : Int32))) * (-2048144789 : Int32))))])) rfl (hb hby at_369) _ ?_
      show Steps p.tables e below (T267.setTop (mkF m 371 #[.val (.long q0), .second, .val (.long q1), .second, .val (.int p2), .val (.int 7), .val (.ref b245), .val (.int (q0.toInt32)), .val (.int (own_lu q0 (32 : Int32))), .val (.int (q1.toInt32)), .val (.int 1), .val (.int 3), .val (.int (own_x13 ((own_x16 (((own_mb (0 : Int32) (q0.toInt32)) ^^^ (own_scr ((own_lu q0 (32 : Int32)) &&& (16777215 : Int32)))) ^^^ (7 : Int32))) * (-2048144789 : Int32)))), .val (.int (own_lu q0 (32 : Int32))), .val (.int (own_scr ((own_lu q0 (32 : Int32)) &&& (16777215 : Int32))))] [(.int (-1028477387)), (.int (own_x13 ((own_x16 (((own_mb (0 : Int32) (q0.toInt32)) ^^^ (own_scr ((own_lu q0 (32 : Int32)) &&& (16777215 : Int32)))) ^^^ (7 : Int32))) * (-2048144789 : Int32))))])) _
      refine own_imul X267.here hx (hb hby at_371) ?_
      refine own_istore X267.here hx (hb hby at_372) (l' := #[.val (.long q0), .second, .val (.long q1), .second, .val (.int p2), .val (.int 7), .val (.ref b245), .val (.int (q0.toInt32)), .val (.int (own_lu q0 (32 : Int32))), .val (.int (q1.toInt32)), .val (.int 1), .val (.int 3), .val (.int ((own_x13 ((own_x16 (((own_mb (0 : Int32) (q0.toInt32)) ^^^ (own_scr ((own_lu q0 (32 : Int32)) &&& (16777215 : Int32)))) ^^^ (7 : Int32))) * (-2048144789 : Int32))) * (-1028477387 : Int32))), .val (.int (own_lu q0 (32 : Int32))), .val (.int (own_scr ((own_lu q0 (32 : Int32)) &&& (16777215 : Int32))))]) rfl ?_
      refine own_iload X267.here hx (hb hby at_374) rfl ?_
      refine own_iload X267.here hx (hb hby at_376) rfl ?_
      refine own_bipush X267.here hx (16 : Int32) (hb hby at_378) rfl ?_
      refine own_iushr X267.here hx (hb hby at_380) ?_
      refine own_ixor X267.here hx (hb hby at_381) ?_
      show Steps p.tables e below (T267.setTop (mkF m 382 #[.val (.long q0), .second, .val (.long q1), .second, .val (.int p2), .val (.int 7), .val (.ref b245), .val (.int (q0.toInt32)), .val (.int (own_lu q0 (32 : Int32))), .val (.int (q1.toInt32)), .val (.int 1), .val (.int 3), .val (.int ((own_x13 ((own_x16 (((own_mb (0 : Int32) (q0.toInt32)) ^^^ (own_scr ((own_lu q0 (32 : Int32)) &&& (16777215 : Int32)))) ^^^ (7 : Int32))) * (-2048144789 : Int32))) * (-1028477387 : Int32))), .val (.int (own_lu q0 (32 : Int32))), .val (.int (own_scr ((own_lu q0 (32 : Int32)) &&& (16777215 : Int32))))] [(.int (own_fin (((own_mb (0 : Int32) (q0.toInt32)) ^^^ (own_scr ((own_lu q0 (32 : Int32)) &&& (16777215 : Int32)))) ^^^ (7 : Int32))))])) _
      refine own_istore X267.here hx (hb hby at_382) (l' := #[.val (.long q0), .second, .val (.long q1), .second, .val (.int p2), .val (.int 7), .val (.ref b245), .val (.int (q0.toInt32)), .val (.int (own_lu q0 (32 : Int32))), .val (.int (q1.toInt32)), .val (.int 1), .val (.int 3), .val (.int (own_fin (((own_mb (0 : Int32) (q0.toInt32)) ^^^ (own_scr ((own_lu q0 (32 : Int32)) &&& (16777215 : Int32)))) ^^^ (7 : Int32)))), .val (.int (own_lu q0 (32 : Int32))), .val (.int (own_scr ((own_lu q0 (32 : Int32)) &&& (16777215 : Int32))))]) rfl ?_
      refine own_aload X267.here hx (hb hby at_384) rfl rfl ?_
      refine st268 _ ?_
      show Steps p.tables e below (T268.setTop (mkF m 389 #[.val (.long q0), .second, .val (.long q1), .second, .val (.int p2), .val (.int 7), .val (.ref b245), .val (.int (q0.toInt32)), .val (.int (own_lu q0 (32 : Int32))), .val (.int (q1.toInt32)), .val (.int 1), .val (.int 3), .val (.int (own_fin (((own_mb (0 : Int32) (q0.toInt32)) ^^^ (own_scr ((own_lu q0 (32 : Int32)) &&& (16777215 : Int32)))) ^^^ (7 : Int32)))), .val (.int (own_lu q0 (32 : Int32))), .val (.int (own_scr ((own_lu q0 (32 : Int32)) &&& (16777215 : Int32))))] [(.int (own_fin (((own_mb (0 : Int32) (own_blk (own_by (q0.toInt32)) (own_by (own_lu q0 (8 : Int32))) (own_by (own_lu q0 (16 : Int32))) (own_by (own_lu q0 (24 : Int32))))) ^^^ (own_scr (own_t3 (own_by (own_lu q0 (32 : Int32))) (own_by (own_lu q0 (40 : Int32))) (own_by (own_lu q0 (48 : Int32)))))) ^^^ (7 : Int32))))])) _
      refine own_iload X268.here hx (hb hby at_389) rfl ?_
      refine own_icmpNo X268.here hx (hb hby at_391) (teq (by first | decide +kernel | simp only [own_blk0, own_blk1, own_t1e, own_t20, own_t21, own_t30, own_t31, own_scr0, Int32.xor_zero] : (own_fin (((own_mb (0 : Int32) (own_blk (own_by (q0.toInt32)) (own_by (own_lu q0 (8 : Int32))) (own_by (own_lu q0 (16 : Int32))) (own_by (own_lu q0 (24 : Int32))))) ^^^ (own_scr (own_t3 (own_by (own_lu q0 (32 : Int32))) (own_by (own_lu q0 (40 : Int32))) (own_by (own_lu q0 (48 : Int32)))))) ^^^ (7 : Int32))) = (own_fin (((own_mb (0 : Int32) (q0.toInt32)) ^^^ (own_scr ((own_lu q0 (32 : Int32)) &&& (16777215 : Int32)))) ^^^ (7 : Int32))))).2 ?_
      refine own_iconst X268.here hx (1 : Int32) (hb hby at_394) rfl ?_
      refine own_goto X268.here hx 395 399 rfl (hb hby at_395) (by decide) (by decide) ?_
      exact retN X268 hx (t := .boolean) Bd.returns (by simp) (hb hby at_399) hr
    · show Q0 Z q0 q1 p2 h0 n0 _ T268.heap _
      rw [e268]
      exact ⟨rfl, N268⟩
  · obtain ⟨T269, h269, k269, X269, e269, E269, A269, st269⟩ := newP X0 hx hZ (hw _ (List.mem_of_getElem? (i := 1) rfl)) e0 (g := (mkF m 12 #[.val (.long q0), .second, .val (.long q1), .second, .val (.int p2), .val (.int 8), .unset, .unset, .unset, .unset, .unset, .unset, .unset, .unset, .unset] [(.int 8)])) rfl (hb hby at_12) rfl (by decide) (cap := 8) (by decide) (by decide) (by decide) (by decide)
    obtain ⟨b269, g269⟩ : ∃ z, z = h0.size := ⟨_, rfl⟩
    rw [← g269] at A269 st269
    have E269' := E269
    have gg269 : n0 ≤ b269 := Nat.le_trans Z0 (Nat.le_of_eq g269.symm)
    have Z269 : n0 ≤ h269.size := Nat.le_trans Z0 E269.1
    have V269 : Arv Z h269 b269 k269 .byte (8 : Int32) [(.int 0), (.int 0), (.int 0), (.int 0), (.int 0), (.int 0), (.int 0), (.int 0)] (.int 0) := (Arv.new A269 (by decide)).pad (pad_rep [] (.int 0) 8)
    obtain ⟨cl270, Ar270, q270, S270, M270, H270, J270⟩ := id V269
    have hin270 : ¬ ((0 : Int32) < 0 ∨ cl270.slots.size ≤ ((0 : Int32)).toNatClampNeg) := inb_of S270 ⟨by decide, by decide⟩
    obtain ⟨T271, h271, X271, e271, W271, st271⟩ := stB X269 hx hZ e269 Ar270 (j := (0 : Int32)) hin270 (g := (mkF m 27 #[.val (.long q0), .second, .val (.long q1), .second, .val (.int p2), .val (.int 8), .val (.ref b269), .unset, .unset, .unset, .unset, .unset, .unset, .unset, .unset] [(.int ((q0.toInt32).toInt8.toInt32)), (.int 0), (.ref b269)])) rfl rfl (hb hby at_27)
    have V271 : Arv Z h271 b269 k269 .byte (8 : Int32) [(.int (own_by (q0.toInt32))), (.int 0), (.int 0), (.int 0), (.int 0), (.int 0), (.int 0), (.int 0)] (.int 0) := Arv.set Ar270 q270 S270 M270 H270 J270 (fits_nar_byte _) W271 0 rfl (Nat.le_of_ble_eq_true rfl)
    have N271 := Fr.snoc X271 N0 gg269
    have Z271 : n0 ≤ h271.size := Nat.le_trans Z269 (Keep.of_wr W271).1
    obtain ⟨cl273, Ar273, q273, S273, M273, H273, J273⟩ := id V271
    have hin273 : ¬ ((1 : Int32) < 0 ∨ cl273.slots.size ≤ ((1 : Int32)).toNatClampNeg) := inb_of S273 ⟨by decide, by decide⟩
    obtain ⟨T274, h274, X274, e274, W274, st274⟩ := stB X271 hx hZ e271 Ar273 (j := (1 : Int32)) hin273 (g := (mkF m 43 #[.val (.long q0), .second, .val (.long q1), .second, .val (.int p2), .val (.int 8), .val (.ref b269), .unset, .unset, .unset, .unset, .unset, .unset, .unset, .unset] [(.int ((own_lu q0 (8 : Int32)).toInt8.toInt32)), (.int 1), (.ref b269)])) rfl rfl (hb hby at_43)
    have V274 : Arv Z h274 b269 k269 .byte (8 : Int32) [(.int (own_by (q0.toInt32))), (.int (own_by (own_lu q0 (8 : Int32)))), (.int 0), (.int 0), (.int 0), (.int 0), (.int 0), (.int 0)] (.int 0) := Arv.set Ar273 q273 S273 M273 H273 J273 (fits_nar_byte _) W274 1 rfl (Nat.le_of_ble_eq_true rfl)
    have N274 := Fr.snoc X274 N271 gg269
    have Z274 : n0 ≤ h274.size := Nat.le_trans Z271 (Keep.of_wr W274).1
    obtain ⟨cl276, Ar276, q276, S276, M276, H276, J276⟩ := id V274
    have hin276 : ¬ ((2 : Int32) < 0 ∨ cl276.slots.size ≤ ((2 : Int32)).toNatClampNeg) := inb_of S276 ⟨by decide, by decide⟩
    obtain ⟨T277, h277, X277, e277, W277, st277⟩ := stB X274 hx hZ e274 Ar276 (j := (2 : Int32)) hin276 (g := (mkF m 59 #[.val (.long q0), .second, .val (.long q1), .second, .val (.int p2), .val (.int 8), .val (.ref b269), .unset, .unset, .unset, .unset, .unset, .unset, .unset, .unset] [(.int ((own_lu q0 (16 : Int32)).toInt8.toInt32)), (.int 2), (.ref b269)])) rfl rfl (hb hby at_59)
    have V277 : Arv Z h277 b269 k269 .byte (8 : Int32) [(.int (own_by (q0.toInt32))), (.int (own_by (own_lu q0 (8 : Int32)))), (.int (own_by (own_lu q0 (16 : Int32)))), (.int 0), (.int 0), (.int 0), (.int 0), (.int 0)] (.int 0) := Arv.set Ar276 q276 S276 M276 H276 J276 (fits_nar_byte _) W277 2 rfl (Nat.le_of_ble_eq_true rfl)
    have N277 := Fr.snoc X277 N274 gg269
    have Z277 : n0 ≤ h277.size := Nat.le_trans Z274 (Keep.of_wr W277).1
    obtain ⟨cl279, Ar279, q279, S279, M279, H279, J279⟩ := id V277
    have hin279 : ¬ ((3 : Int32) < 0 ∨ cl279.slots.size ≤ ((3 : Int32)).toNatClampNeg) := inb_of S279 ⟨by decide, by decide⟩
    obtain ⟨T280, h280, X280, e280, W280, st280⟩ := stB X277 hx hZ e277 Ar279 (j := (3 : Int32)) hin279 (g := (mkF m 75 #[.val (.long q0), .second, .val (.long q1), .second, .val (.int p2), .val (.int 8), .val (.ref b269), .unset, .unset, .unset, .unset, .unset, .unset, .unset, .unset] [(.int ((own_lu q0 (24 : Int32)).toInt8.toInt32)), (.int 3), (.ref b269)])) rfl rfl (hb hby at_75)
    have V280 : Arv Z h280 b269 k269 .byte (8 : Int32) [(.int (own_by (q0.toInt32))), (.int (own_by (own_lu q0 (8 : Int32)))), (.int (own_by (own_lu q0 (16 : Int32)))), (.int (own_by (own_lu q0 (24 : Int32)))), (.int 0), (.int 0), (.int 0), (.int 0)] (.int 0) := Arv.set Ar279 q279 S279 M279 H279 J279 (fits_nar_byte _) W280 3 rfl (Nat.le_of_ble_eq_true rfl)
    have N280 := Fr.snoc X280 N277 gg269
    have Z280 : n0 ≤ h280.size := Nat.le_trans Z277 (Keep.of_wr W280).1
    obtain ⟨cl282, Ar282, q282, S282, M282, H282, J282⟩ := id V280
    have hin282 : ¬ ((4 : Int32) < 0 ∨ cl282.slots.size ≤ ((4 : Int32)).toNatClampNeg) := inb_of S282 ⟨by decide, by decide⟩
    obtain ⟨T283, h283, X283, e283, W283, st283⟩ := stB X280 hx hZ e280 Ar282 (j := (4 : Int32)) hin282 (g := (mkF m 91 #[.val (.long q0), .second, .val (.long q1), .second, .val (.int p2), .val (.int 8), .val (.ref b269), .unset, .unset, .unset, .unset, .unset, .unset, .unset, .unset] [(.int ((own_lu q0 (32 : Int32)).toInt8.toInt32)), (.int 4), (.ref b269)])) rfl rfl (hb hby at_91)
    have V283 : Arv Z h283 b269 k269 .byte (8 : Int32) [(.int (own_by (q0.toInt32))), (.int (own_by (own_lu q0 (8 : Int32)))), (.int (own_by (own_lu q0 (16 : Int32)))), (.int (own_by (own_lu q0 (24 : Int32)))), (.int (own_by (own_lu q0 (32 : Int32)))), (.int 0), (.int 0), (.int 0)] (.int 0) := Arv.set Ar282 q282 S282 M282 H282 J282 (fits_nar_byte _) W283 4 rfl (Nat.le_of_ble_eq_true rfl)
    have N283 := Fr.snoc X283 N280 gg269
    have Z283 : n0 ≤ h283.size := Nat.le_trans Z280 (Keep.of_wr W283).1
    obtain ⟨cl285, Ar285, q285, S285, M285, H285, J285⟩ := id V283
    have hin285 : ¬ ((5 : Int32) < 0 ∨ cl285.slots.size ≤ ((5 : Int32)).toNatClampNeg) := inb_of S285 ⟨by decide, by decide⟩
    obtain ⟨T286, h286, X286, e286, W286, st286⟩ := stB X283 hx hZ e283 Ar285 (j := (5 : Int32)) hin285 (g := (mkF m 107 #[.val (.long q0), .second, .val (.long q1), .second, .val (.int p2), .val (.int 8), .val (.ref b269), .unset, .unset, .unset, .unset, .unset, .unset, .unset, .unset] [(.int ((own_lu q0 (40 : Int32)).toInt8.toInt32)), (.int 5), (.ref b269)])) rfl rfl (hb hby at_107)
    have V286 : Arv Z h286 b269 k269 .byte (8 : Int32) [(.int (own_by (q0.toInt32))), (.int (own_by (own_lu q0 (8 : Int32)))), (.int (own_by (own_lu q0 (16 : Int32)))), (.int (own_by (own_lu q0 (24 : Int32)))), (.int (own_by (own_lu q0 (32 : Int32)))), (.int (own_by (own_lu q0 (40 : Int32)))), (.int 0), (.int 0)] (.int 0) := Arv.set Ar285 q285 S285 M285 H285 J285 (fits_nar_byte _) W286 5 rfl (Nat.le_of_ble_eq_true rfl)
    have N286 := Fr.snoc X286 N283 gg269
    have Z286 : n0 ≤ h286.size := Nat.le_trans Z283 (Keep.of_wr W286).1
    obtain ⟨cl288, Ar288, q288, S288, M288, H288, J288⟩ := id V286
    have hin288 : ¬ ((6 : Int32) < 0 ∨ cl288.slots.size ≤ ((6 : Int32)).toNatClampNeg) := inb_of S288 ⟨by decide, by decide⟩
    obtain ⟨T289, h289, X289, e289, W289, st289⟩ := stB X286 hx hZ e286 Ar288 (j := (6 : Int32)) hin288 (g := (mkF m 125 #[.val (.long q0), .second, .val (.long q1), .second, .val (.int p2), .val (.int 8), .val (.ref b269), .unset, .unset, .unset, .unset, .unset, .unset, .unset, .unset] [(.int ((own_lu q0 (48 : Int32)).toInt8.toInt32)), (.int 6), (.ref b269)])) rfl rfl (hb hby at_125)
    have V289 : Arv Z h289 b269 k269 .byte (8 : Int32) [(.int (own_by (q0.toInt32))), (.int (own_by (own_lu q0 (8 : Int32)))), (.int (own_by (own_lu q0 (16 : Int32)))), (.int (own_by (own_lu q0 (24 : Int32)))), (.int (own_by (own_lu q0 (32 : Int32)))), (.int (own_by (own_lu q0 (40 : Int32)))), (.int (own_by (own_lu q0 (48 : Int32)))), (.int 0)] (.int 0) := Arv.set Ar288 q288 S288 M288 H288 J288 (fits_nar_byte _) W289 6 rfl (Nat.le_of_ble_eq_true rfl)
    have N289 := Fr.snoc X289 N286 gg269
    have Z289 : n0 ≤ h289.size := Nat.le_trans Z286 (Keep.of_wr W289).1
    obtain ⟨cl291, Ar291, q291, S291, M291, H291, J291⟩ := id V289
    have hin291 : ¬ ((7 : Int32) < 0 ∨ cl291.slots.size ≤ ((7 : Int32)).toNatClampNeg) := inb_of S291 ⟨by decide, by decide⟩
    obtain ⟨T292, h292, X292, e292, W292, st292⟩ := stB X289 hx hZ e289 Ar291 (j := (7 : Int32)) hin291 (g := (mkF m 143 #[.val (.long q0), .second, .val (.long q1), .second, .val (.int p2), .val (.int 8), .val (.ref b269), .unset, .unset, .unset, .unset, .unset, .unset, .unset, .unset] [(.int ((own_lu q0 (56 : Int32)).toInt8.toInt32)), (.int 7), (.ref b269)])) rfl rfl (hb hby at_143)
    have V292 : Arv Z h292 b269 k269 .byte (8 : Int32) [(.int (own_by (q0.toInt32))), (.int (own_by (own_lu q0 (8 : Int32)))), (.int (own_by (own_lu q0 (16 : Int32)))), (.int (own_by (own_lu q0 (24 : Int32)))), (.int (own_by (own_lu q0 (32 : Int32)))), (.int (own_by (own_lu q0 (40 : Int32)))), (.int (own_by (own_lu q0 (48 : Int32)))), (.int (own_by (own_lu q0 (56 : Int32))))] (.int 0) := Arv.set Ar291 q291 S291 M291 H291 J291 (fits_nar_byte _) W292 7 rfl (Nat.le_of_ble_eq_true rfl)
    have N292 := Fr.snoc X292 N289 gg269
    have Z292 : n0 ≤ h292.size := Nat.le_trans Z289 (Keep.of_wr W292).1
    obtain ⟨_, _, ⟨T294, L294, k294, n294⟩, -, X294, ⟨Lc294, hQ294, l294, y294, z294⟩, st294⟩ := Jvm.LawKit.callS X292 hx (y := (⟨"com/example/forkline/forkline/bucketing/MurmurHash3Hash32PinLaw", "mixBlock", "(II)I"⟩ : MethodName)) hown (mvT hZ (hw _ (List.mem_of_getElem? (i := 22) rfl))) (mvT hZ (hw _ (List.mem_of_getElem? (i := 23) rfl))) (mvT hZ (hw _ (List.mem_of_getElem? (i := 24) rfl))) (mvT hZ (hw _ (List.mem_of_getElem? (i := 25) rfl))) (by decide) (backOf (W := 0) (rm4 l Z a0 hw [] (0 : Int32) (q0.toInt32) h292 n0 Z292) hZ (hw _ (List.mem_of_getElem? (i := 25) rfl)) (hw _ (List.mem_of_getElem? (i := 24) rfl)) (by decide) (by decide)) (g := (mkF m 235 #[.val (.long q0), .second, .val (.long q1), .second, .val (.int p2), .val (.int 8), .val (.ref b269), .val (.int (q0.toInt32)), .val (.int (own_lu q0 (32 : Int32))), .val (.int (q1.toInt32)), .val (.int 2), .val (.int 0), .val (.int 0), .unset, .unset] [(.int (q0.toInt32)), (.int 0)])) rfl (by rw [hml]; rfl) (argsL := [(.int 0), (.int (q0.toInt32))]) (rest := []) (lenOf pd_28II29I rfl) rfl (by show 2 * 0 + _ ≤ _; exact Nat.le_of_eq rfl) (hb hby at_235) (fun _ _ => ⟨rfl, e292, (by decide : 1 + 0 ≤ _), (by decide : 8 + 0 ≤ _)⟩)
    dsimp only [Pt.U, Pt.locs, Pt.cells, Pt.slots] at X294 l294 y294 z294 st294 hQ294
    subst l294 y294 z294
    obtain ⟨rfl, N294q, e294⟩ := hQ294
    have N294 := Fr.app N292 N294q
    obtain ⟨_, _, ⟨T295, L295, k295, n295⟩, -, X295, ⟨Lc295, hQ295, l295, y295, z295⟩, st295⟩ := Jvm.LawKit.callS X294 hx (y := (⟨"com/example/forkline/forkline/bucketing/MurmurHash3Hash32PinLaw", "mixBlock", "(II)I"⟩ : MethodName)) hown (mvT hZ (hw _ (List.mem_of_getElem? (i := 22) rfl))) (mvT hZ (hw _ (List.mem_of_getElem? (i := 23) rfl))) (mvT hZ (hw _ (List.mem_of_getElem? (i := 24) rfl))) (mvT hZ (hw _ (List.mem_of_getElem? (i := 25) rfl))) (by decide) (backOf (W := 0) (rm4 l Z a0 hw [] (own_mb (0 : Int32) (q0.toInt32)) (own_lu q0 (32 : Int32)) h292 n0 Z292) hZ (hw _ (List.mem_of_getElem? (i := 25) rfl)) (hw _ (List.mem_of_getElem? (i := 24) rfl)) (by decide) (by decide)) (g := (mkF m 250 #[.val (.long q0), .second, .val (.long q1), .second, .val (.int p2), .val (.int 8), .val (.ref b269), .val (.int (q0.toInt32)), .val (.int (own_lu q0 (32 : Int32))), .val (.int (q1.toInt32)), .val (.int 2), .val (.int 0), .val (.int (own_mb (0 : Int32) (q0.toInt32))), .unset, .unset] [(.int (own_lu q0 (32 : Int32))), (.int (own_mb (0 : Int32) (q0.toInt32)))])) rfl (by rw [hml]; rfl) (argsL := [(.int (own_mb (0 : Int32) (q0.toInt32))), (.int (own_lu q0 (32 : Int32)))]) (rest := []) (lenOf pd_28II29I rfl) rfl (by show 2 * 0 + _ ≤ _; exact Nat.le_of_eq rfl) (hb hby at_250) (fun _ _ => ⟨rfl, e294, (by decide : 1 + 0 ≤ _), (by decide : 8 + 0 ≤ _)⟩)
    dsimp only [Pt.U, Pt.locs, Pt.cells, Pt.slots] at X295 l295 y295 z295 st295 hQ295
    subst l295 y295 z295
    obtain ⟨rfl, N295q, e295⟩ := hQ295
    have N295 := Fr.app N294 N295q
    obtain ⟨_, _, ⟨T296, L296, k296, n296⟩, -, X296, ⟨Lc296, hQ296, l296, y296, z296⟩, st296⟩ := Jvm.LawKit.callS X295 hx (y := (⟨"com/example/forkline/forkline/bucketing/MurmurHash3", "hash32", "([B)I"⟩ : MethodName)) hown (mvT hZ (hw _ (List.mem_of_getElem? (i := 4) rfl))) (mvT hZ (hw _ (List.mem_of_getElem? (i := 5) rfl))) (mvT hZ (hw _ (List.mem_of_getElem? (i := 6) rfl))) (mvT hZ (hw _ (List.mem_of_getElem? (i := 7) rfl))) (by decide) (backOf (W := 0) (rmH_8 l Z a0 hw [] b269 k269 (own_by (q0.toInt32)) (own_by (own_lu q0 (8 : Int32))) (own_by (own_lu q0 (16 : Int32))) (own_by (own_lu q0 (24 : Int32))) (own_by (own_lu q0 (32 : Int32))) (own_by (own_lu q0 (40 : Int32))) (own_by (own_lu q0 (48 : Int32))) (own_by (own_lu q0 (56 : Int32))) h292 n0 Z292 V292) hZ (hw _ (List.mem_of_getElem? (i := 7) rfl)) (hw _ (List.mem_of_getElem? (i := 6) rfl)) (by decide) (by decide)) (g := (mkF m 386 #[.val (.long q0), .second, .val (.long q1), .second, .val (.int p2), .val (.int 8), .val (.ref b269), .val (.int (q0.toInt32)), .val (.int (own_lu q0 (32 : Int32))), .val (.int (q1.toInt32)), .val (.int 2), .val (.int 0), .val (.int (own_fin ((own_mb (own_mb (0 : Int32) (q0.toInt32)) (own_lu q0 (32 : Int32))) ^^^ (8 : Int32)))), .val (.int (q1.toInt32)), .unset] [(.ref b269)])) rfl (by rw [hml]; rfl) (argsL := [(.ref b269)]) (rest := []) (lenOf pd_285bB29I rfl) rfl (by show 2 * 0 + _ ≤ _; exact Nat.le_of_eq rfl) (hb hby at_386) (fun _ _ => ⟨rfl, e295, (by decide : 1 + 0 ≤ _), (by decide : 8 + 0 ≤ _)⟩)
    dsimp only [Pt.U, Pt.locs, Pt.cells, Pt.slots] at X296 l296 y296 z296 st296 hQ296
    subst l296 y296 z296
    obtain ⟨rfl, N296q, e296⟩ := hQ296
    have N296 := Fr.app N295 N296q
    obtain ⟨fs, hr, hrun, hended, hW, hsame⟩ := X296.leave (v := some (.int 1)) (fun h => by rw [Bd.returns] at h; cases h)
    refine ⟨_, _, pre0 _ ?_, hrun, hended, _, _, rfl, ?_, ⟨_, rfl⟩, hW, hsame.mono (by decide) (by decide)⟩
    · refine G164 _ ?_
      rw [hn]
      refine own_iload X0.here hx (hb hby at_10) rfl ?_
      refine st269 _ ?_
      show Steps p.tables e below (T269.setTop (mkF m 14 #[.val (.long q0), .second, .val (.long q1), .second, .val (.int p2), .val (.int 8), .unset, .unset, .unset, .unset, .unset, .unset, .unset, .unset, .unset] [(.ref b269)])) _
      refine own_astore X269.here hx (hb hby at_14) rfl (l' := #[.val (.long q0), .second, .val (.long q1), .second, .val (.int p2), .val (.int 8), .val (.ref b269), .unset, .unset, .unset, .unset, .unset, .unset, .unset, .unset]) rfl ?_
      refine own_iload X269.here hx (hb hby at_16) rfl ?_
      refine own_ifNo X269.here hx (hb hby at_18) ((if0 _ _).trans (tlt (by decide : (0 : Int32) < (8 : Int32))).2.2.2) ?_
      refine own_aload X269.here hx (hb hby at_21) rfl rfl ?_
      refine own_iconst X269.here hx (0 : Int32) (hb hby at_23) rfl ?_
      refine own_lloadN X269.here hx (hb hby at_24) rfl ?_
      refine own_l2i X269.here hx (hb hby at_25) ?_
      refine own_i2b X269.here hx (hb hby at_26) ?_
      refine st271 _ ?_
      show Steps p.tables e below (T271.setTop (mkF m 28 #[.val (.long q0), .second, .val (.long q1), .second, .val (.int p2), .val (.int 8), .val (.ref b269), .unset, .unset, .unset, .unset, .unset, .unset, .unset, .unset] [])) _
      refine own_iload X271.here hx (hb hby at_28) rfl ?_
      refine own_iconst X271.here hx (1 : Int32) (hb hby at_30) rfl ?_
      refine own_icmpNo X271.here hx (hb hby at_31) (tlt (by decide : (1 : Int32) < (8 : Int32))).2.2.2 ?_
      refine own_aload X271.here hx (hb hby at_34) rfl rfl ?_
      refine own_iconst X271.here hx (1 : Int32) (hb hby at_36) rfl ?_
      refine own_lloadN X271.here hx (hb hby at_37) rfl ?_
      refine own_bipush X271.here hx (8 : Int32) (hb hby at_38) rfl ?_
      refine own_lushr X271.here hx (hb hby at_40) ?_
      refine own_l2i X271.here hx (hb hby at_41) ?_
      show Steps p.tables e below (T271.setTop (mkF m 42 #[.val (.long q0), .second, .val (.long q1), .second, .val (.int p2), .val (.int 8), .val (.ref b269), .unset, .unset, .unset, .unset, .unset, .unset, .unset, .unset] [(.int (own_lu q0 (8 : Int32))), (.int 1), (.ref b269)])) _
      refine own_i2b X271.here hx (hb hby at_42) ?_
      refine st274 _ ?_
      show Steps p.tables e below (T274.setTop (mkF m 44 #[.val (.long q0), .second, .val (.long q1), .second, .val (.int p2), .val (.int 8), .val (.ref b269), .unset, .unset, .unset, .unset, .unset, .unset, .unset, .unset] [])) _
      refine own_iload X274.here hx (hb hby at_44) rfl ?_
      refine own_iconst X274.here hx (2 : Int32) (hb hby at_46) rfl ?_
      refine own_icmpNo X274.here hx (hb hby at_47) (tlt (by decide : (2 : Int32) < (8 : Int32))).2.2.2 ?_
      refine own_aload X274.here hx (hb hby at_50) rfl rfl ?_
      refine own_iconst X274.here hx (2 : Int32) (hb hby at_52) rfl ?_
      refine own_lloadN X274.here hx (hb hby at_53) rfl ?_
      refine own_bipush X274.here hx (16 : Int32) (hb hby at_54) rfl ?_
      refine own_lushr X274.here hx (hb hby at_56) ?_
      refine own_l2i X274.here hx (hb hby at_57) ?_
      show Steps p.tables e below (T274.setTop (mkF m 58 #[.val (.long q0), .second, .val (.long q1), .second, .val (.int p2), .val (.int 8), .val (.ref b269), .unset, .unset, .unset, .unset, .unset, .unset, .unset, .unset] [(.int (own_lu q0 (16 : Int32))), (.int 2), (.ref b269)])) _
      refine own_i2b X274.here hx (hb hby at_58) ?_
      refine st277 _ ?_
      show Steps p.tables e below (T277.setTop (mkF m 60 #[.val (.long q0), .second, .val (.long q1), .second, .val (.int p2), .val (.int 8), .val (.ref b269), .unset, .unset, .unset, .unset, .unset, .unset, .unset, .unset] [])) _
      refine own_iload X277.here hx (hb hby at_60) rfl ?_
      refine own_iconst X277.here hx (3 : Int32) (hb hby at_62) rfl ?_
      refine own_icmpNo X277.here hx (hb hby at_63) (tlt (by decide : (3 : Int32) < (8 : Int32))).2.2.2 ?_
      refine own_aload X277.here hx (hb hby at_66) rfl rfl ?_
      refine own_iconst X277.here hx (3 : Int32) (hb hby at_68) rfl ?_
      refine own_lloadN X277.here hx (hb hby at_69) rfl ?_
      refine own_bipush X277.here hx (24 : Int32) (hb hby at_70) rfl ?_
      refine own_lushr X277.here hx (hb hby at_72) ?_
      refine own_l2i X277.here hx (hb hby at_73) ?_
      show Steps p.tables e below (T277.setTop (mkF m 74 #[.val (.long q0), .second, .val (.long q1), .second, .val (.int p2), .val (.int 8), .val (.ref b269), .unset, .unset, .unset, .unset, .unset, .unset, .unset, .unset] [(.int (own_lu q0 (24 : Int32))), (.int 3), (.ref b269)])) _
      refine own_i2b X277.here hx (hb hby at_74) ?_
      refine st280 _ ?_
      show Steps p.tables e below (T280.setTop (mkF m 76 #[.val (.long q0), .second, .val (.long q1), .second, .val (.int p2), .val (.int 8), .val (.ref b269), .unset, .unset, .unset, .unset, .unset, .unset, .unset, .unset] [])) _
      refine own_iload X280.here hx (hb hby at_76) rfl ?_
      refine own_iconst X280.here hx (4 : Int32) (hb hby at_78) rfl ?_
      refine own_icmpNo X280.here hx (hb hby at_79) (tlt (by decide : (4 : Int32) < (8 : Int32))).2.2.2 ?_
      refine own_aload X280.here hx (hb hby at_82) rfl rfl ?_
      refine own_iconst X280.here hx (4 : Int32) (hb hby at_84) rfl ?_
      refine own_lloadN X280.here hx (hb hby at_85) rfl ?_
      refine own_bipush X280.here hx (32 : Int32) (hb hby at_86) rfl ?_
      refine own_lushr X280.here hx (hb hby at_88) ?_
      refine own_l2i X280.here hx (hb hby at_89) ?_
      show Steps p.tables e below (T280.setTop (mkF m 90 #[.val (.long q0), .second, .val (.long q1), .second, .val (.int p2), .val (.int 8), .val (.ref b269), .unset, .unset, .unset, .unset, .unset, .unset, .unset, .unset] [(.int (own_lu q0 (32 : Int32))), (.int 4), (.ref b269)])) _
      refine own_i2b X280.here hx (hb hby at_90) ?_
      refine st283 _ ?_
      show Steps p.tables e below (T283.setTop (mkF m 92 #[.val (.long q0), .second, .val (.long q1), .second, .val (.int p2), .val (.int 8), .val (.ref b269), .unset, .unset, .unset, .unset, .unset, .unset, .unset, .unset] [])) _
      refine own_iload X283.here hx (hb hby at_92) rfl ?_
      refine own_iconst X283.here hx (5 : Int32) (hb hby at_94) rfl ?_
      refine own_icmpNo X283.here hx (hb hby at_95) (tlt (by decide : (5 : Int32) < (8 : Int32))).2.2.2 ?_
      refine own_aload X283.here hx (hb hby at_98) rfl rfl ?_
      refine own_iconst X283.here hx (5 : Int32) (hb hby at_100) rfl ?_
      refine own_lloadN X283.here hx (hb hby at_101) rfl ?_
      refine own_bipush X283.here hx (40 : Int32) (hb hby at_102) rfl ?_
      refine own_lushr X283.here hx (hb hby at_104) ?_
      refine own_l2i X283.here hx (hb hby at_105) ?_
      show Steps p.tables e below (T283.setTop (mkF m 106 #[.val (.long q0), .second, .val (.long q1), .second, .val (.int p2), .val (.int 8), .val (.ref b269), .unset, .unset, .unset, .unset, .unset, .unset, .unset, .unset] [(.int (own_lu q0 (40 : Int32))), (.int 5), (.ref b269)])) _
      refine own_i2b X283.here hx (hb hby at_106) ?_
      refine st286 _ ?_
      show Steps p.tables e below (T286.setTop (mkF m 108 #[.val (.long q0), .second, .val (.long q1), .second, .val (.int p2), .val (.int 8), .val (.ref b269), .unset, .unset, .unset, .unset, .unset, .unset, .unset, .unset] [])) _
      refine own_iload X286.here hx (hb hby at_108) rfl ?_
      refine own_bipush X286.here hx (6 : Int32) (hb hby at_110) rfl ?_
      refine own_icmpNo X286.here hx (hb hby at_112) (tlt (by decide : (6 : Int32) < (8 : Int32))).2.2.2 ?_
      refine own_aload X286.here hx (hb hby at_115) rfl rfl ?_
      refine own_bipush X286.here hx (6 : Int32) (hb hby at_117) rfl ?_
      refine own_lloadN X286.here hx (hb hby at_119) rfl ?_
      refine own_bipush X286.here hx (48 : Int32) (hb hby at_120) rfl ?_
      refine own_lushr X286.here hx (hb hby at_122) ?_
      refine own_l2i X286.here hx (hb hby at_123) ?_
      show Steps p.tables e below (T286.setTop (mkF m 124 #[.val (.long q0), .second, .val (.long q1), .second, .val (.int p2), .val (.int 8), .val (.ref b269), .unset, .unset, .unset, .unset, .unset, .unset, .unset, .unset] [(.int (own_lu q0 (48 : Int32))), (.int 6), (.ref b269)])) _
      refine own_i2b X286.here hx (hb hby at_124) ?_
      refine st289 _ ?_
      show Steps p.tables e below (T289.setTop (mkF m 126 #[.val (.long q0), .second, .val (.long q1), .second, .val (.int p2), .val (.int 8), .val (.ref b269), .unset, .unset, .unset, .unset, .unset, .unset, .unset, .unset] [])) _
      refine own_iload X289.here hx (hb hby at_126) rfl ?_
      refine own_bipush X289.here hx (7 : Int32) (hb hby at_128) rfl ?_
      refine own_icmpNo X289.here hx (hb hby at_130) (tlt (by decide : (7 : Int32) < (8 : Int32))).2.2.2 ?_
      refine own_aload X289.here hx (hb hby at_133) rfl rfl ?_
      refine own_bipush X289.here hx (7 : Int32) (hb hby at_135) rfl ?_
      refine own_lloadN X289.here hx (hb hby at_137) rfl ?_
      refine own_bipush X289.here hx (56 : Int32) (hb hby at_138) rfl ?_
      refine own_lushr X289.here hx (hb hby at_140) ?_
      refine own_l2i X289.here hx (hb hby at_141) ?_
      show Steps p.tables e below (T289.setTop (mkF m 142 #[.val (.long q0), .second, .val (.long q1), .second, .val (.int p2), .val (.int 8), .val (.ref b269), .unset, .unset, .unset, .unset, .unset, .unset, .unset, .unset] [(.int (own_lu q0 (56 : Int32))), (.int 7), (.ref b269)])) _
      refine own_i2b X289.here hx (hb hby at_142) ?_
      refine st292 _ ?_
      show Steps p.tables e below (T292.setTop (mkF m 144 #[.val (.long q0), .second, .val (.long q1), .second, .val (.int p2), .val (.int 8), .val (.ref b269), .unset, .unset, .unset, .unset, .unset, .unset, .unset, .unset] [])) _
      refine own_iload X292.here hx (hb hby at_144) rfl ?_
      refine own_bipush X292.here hx (8 : Int32) (hb hby at_146) rfl ?_
      refine own_icmpYes X292.here hx 148 159 rfl (hb hby at_148) (flt (by decide : ¬ ((8 : Int32) < (8 : Int32)))).2.2.2 (by decide) (by decide) ?_
      refine own_iload X292.here hx (hb hby at_159) rfl ?_
      refine own_bipush X292.here hx (9 : Int32) (hb hby at_161) rfl ?_
      refine own_icmpYes X292.here hx 163 177 rfl (hb hby at_163) (flt (by decide : ¬ ((9 : Int32) < (8 : Int32)))).2.2.2 (by decide) (by decide) ?_
      refine own_iload X292.here hx (hb hby at_177) rfl ?_
      refine own_bipush X292.here hx (10 : Int32) (hb hby at_179) rfl ?_
      refine own_icmpYes X292.here hx 181 195 rfl (hb hby at_181) (flt (by decide : ¬ ((10 : Int32) < (8 : Int32)))).2.2.2 (by decide) (by decide) ?_
      refine own_lloadN X292.here hx (hb hby at_195) rfl ?_
      refine own_l2i X292.here hx (hb hby at_196) ?_
      refine own_istore X292.here hx (hb hby at_197) (l' := #[.val (.long q0), .second, .val (.long q1), .second, .val (.int p2), .val (.int 8), .val (.ref b269), .val (.int (q0.toInt32)), .unset, .unset, .unset, .unset, .unset, .unset, .unset]) rfl ?_
      refine own_lloadN X292.here hx (hb hby at_199) rfl ?_
      refine own_bipush X292.here hx (32 : Int32) (hb hby at_200) rfl ?_
      refine own_lushr X292.here hx (hb hby at_202) ?_
      refine own_l2i X292.here hx (hb hby at_203) ?_
      show Steps p.tables e below (T292.setTop (mkF m 204 #[.val (.long q0), .second, .val (.long q1), .second, .val (.int p2), .val (.int 8), .val (.ref b269), .val (.int (q0.toInt32)), .unset, .unset, .unset, .unset, .unset, .unset, .unset] [(.int (own_lu q0 (32 : Int32)))])) _
      refine own_istore X292.here hx (hb hby at_204) (l' := #[.val (.long q0), .second, .val (.long q1), .second, .val (.int p2), .val (.int 8), .val (.ref b269), .val (.int (q0.toInt32)), .val (.int (own_lu q0 (32 : Int32))), .unset, .unset, .unset, .unset, .unset, .unset]) rfl ?_
      refine own_lloadN X292.here hx (hb hby at_206) rfl ?_
      refine own_l2i X292.here hx (hb hby at_207) ?_
      refine own_istore X292.here hx (hb hby at_208) (l' := #[.val (.long q0), .second, .val (.long q1), .second, .val (.int p2), .val (.int 8), .val (.ref b269), .val (.int (q0.toInt32)), .val (.int (own_lu q0 (32 : Int32))), .val (.int (q1.toInt32)), .unset, .unset, .unset, .unset, .unset]) rfl ?_
      refine own_iload X292.here hx (hb hby at_210) rfl ?_
      refine own_iconst X292.here hx (4 : Int32) (hb hby at_212) rfl ?_
      refine own_idiv X292.here hx (hb hby at_213) (by decide) ?_
      show Steps p.tables e below (T292.setTop (mkF m 214 #[.val (.long q0), .second, .val (.long q1), .second, .val (.int p2), .val (.int 8), .val (.ref b269), .val (.int (q0.toInt32)), .val (.int (own_lu q0 (32 : Int32))), .val (.int (q1.toInt32)), .unset, .unset, .unset, .unset, .unset] [(.int 2)])) _
      refine own_istore X292.here hx (hb hby at_214) (l' := #[.val (.long q0), .second, .val (.long q1), .second, .val (.int p2), .val (.int 8), .val (.ref b269), .val (.int (q0.toInt32)), .val (.int (own_lu q0 (32 : Int32))), .val (.int (q1.toInt32)), .val (.int 2), .unset, .unset, .unset, .unset]) rfl ?_
      refine own_iload X292.here hx (hb hby at_216) rfl ?_
      refine own_iconst X292.here hx (4 : Int32) (hb hby at_218) rfl ?_
      refine own_irem X292.here hx (hb hby at_219) (by decide) ?_
      show Steps p.tables e below (T292.setTop (mkF m 220 #[.val (.long q0), .second, .val (.long q1), .second, .val (.int p2), .val (.int 8), .val (.ref b269), .val (.int (q0.toInt32)), .val (.int (own_lu q0 (32 : Int32))), .val (.int (q1.toInt32)), .val (.int 2), .unset, .unset, .unset, .unset] [(.int 0)])) _
      refine own_istore X292.here hx (hb hby at_220) (l' := #[.val (.long q0), .second, .val (.long q1), .second, .val (.int p2), .val (.int 8), .val (.ref b269), .val (.int (q0.toInt32)), .val (.int (own_lu q0 (32 : Int32))), .val (.int (q1.toInt32)), .val (.int 2), .val (.int 0), .unset, .unset, .unset]) rfl ?_
      refine own_iconst X292.here hx (0 : Int32) (hb hby at_222) rfl ?_
      refine own_istore X292.here hx (hb hby at_223) (l' := #[.val (.long q0), .second, .val (.long q1), .second, .val (.int p2), .val (.int 8), .val (.ref b269), .val (.int (q0.toInt32)), .val (.int (own_lu q0 (32 : Int32))), .val (.int (q1.toInt32)), .val (.int 2), .val (.int 0), .val (.int 0), .unset, .unset]) rfl ?_
      refine own_iload X292.here hx (hb hby at_225) rfl ?_
      refine own_iconst X292.here hx (1 : Int32) (hb hby at_227) rfl ?_
      refine own_icmpNo X292.here hx (hb hby at_228) (flt (by decide : ¬ ((2 : Int32) < (1 : Int32)))).1 ?_
      refine own_iload X292.here hx (hb hby at_231) rfl ?_
      refine own_iload X292.here hx (hb hby at_233) rfl ?_
      refine st294 _ ?_
      show Steps p.tables e below (T294.setTop (mkF m 238 #[.val (.long q0), .second, .val (.long q1), .second, .val (.int p2), .val (.int 8), .val (.ref b269), .val (.int (q0.toInt32)), .val (.int (own_lu q0 (32 : Int32))), .val (.int (q1.toInt32)), .val (.int 2), .val (.int 0), .val (.int 0), .unset, .unset] [(.int (own_mb (0 : Int32) (q0.toInt32)))])) _
      refine own_istore X294.here hx (hb hby at_238) (l' := #[.val (.long q0), .second, .val (.long q1), .second, .val (.int p2), .val (.int 8), .val (.ref b269), .val (.int (q0.toInt32)), .val (.int (own_lu q0 (32 : Int32))), .val (.int (q1.toInt32)), .val (.int 2), .val (.int 0), .val (.int (own_mb (0 : Int32) (q0.toInt32))), .unset, .unset]) rfl ?_
      refine own_iload X294.here hx (hb hby at_240) rfl ?_
      refine own_iconst X294.here hx (2 : Int32) (hb hby at_242) rfl ?_
      refine own_icmpNo X294.here hx (hb hby at_243) (flt (by decide : ¬ ((2 : Int32) < (2 : Int32)))).1 ?_
      refine own_iload X294.here hx (hb hby at_246) rfl ?_
      refine own_iload X294.here hx (hb hby at_248) rfl ?_
      refine st295 _ ?_
      show Steps p.tables e below (T295.setTop (mkF m 253 #[.val (.long q0), .second, .val (.long q1), .second, .val (.int p2), .val (.int 8), .val (.ref b269), .val (.int (q0.toInt32)), .val (.int (own_lu q0 (32 : Int32))), .val (.int (q1.toInt32)), .val (.int 2), .val (.int 0), .val (.int (own_mb (0 : Int32) (q0.toInt32))), .unset, .unset] [(.int (own_mb (own_mb (0 : Int32) (q0.toInt32)) (own_lu q0 (32 : Int32))))])) _
      refine own_istore X295.here hx (hb hby at_253) (l' := #[.val (.long q0), .second, .val (.long q1), .second, .val (.int p2), .val (.int 8), .val (.ref b269), .val (.int (q0.toInt32)), .val (.int (own_lu q0 (32 : Int32))), .val (.int (q1.toInt32)), .val (.int 2), .val (.int 0), .val (.int (own_mb (own_mb (0 : Int32) (q0.toInt32)) (own_lu q0 (32 : Int32)))), .unset, .unset]) rfl ?_
      refine own_iload X295.here hx (hb hby at_255) rfl ?_
      refine own_ifYes X295.here hx 257 265 rfl (hb hby at_257) ((if0 _ _).trans (feq (by decide : ¬ ((2 : Int32) = (0 : Int32)))).2) (by decide) (by decide) ?_
      refine own_iload X295.here hx (hb hby at_265) rfl ?_
      refine own_iconst X295.here hx (1 : Int32) (hb hby at_267) rfl ?_
      refine own_icmpYes X295.here hx 268 276 rfl (hb hby at_268) (feq (by decide : ¬ ((2 : Int32) = (1 : Int32)))).2 (by decide) (by decide) ?_
      refine own_iload X295.here hx (hb hby at_276) rfl ?_
      refine own_istore X295.here hx (hb hby at_278) (l' := #[.val (.long q0), .second, .val (.long q1), .second, .val (.int p2), .val (.int 8), .val (.ref b269), .val (.int (q0.toInt32)), .val (.int (own_lu q0 (32 : Int32))), .val (.int (q1.toInt32)), .val (.int 2), .val (.int 0), .val (.int (own_mb (own_mb (0 : Int32) (q0.toInt32)) (own_lu q0 (32 : Int32)))), .val (.int (q1.toInt32)), .unset]) rfl ?_
      refine own_iload X295.here hx (hb hby at_280) rfl ?_
      refine own_ifYes X295.here hx 282 333 rfl (hb hby at_282) ((if0 _ _).trans (flt (by decide : ¬ ((0 : Int32) < (0 : Int32)))).2.2.2) (by decide) (by decide) ?_
      refine own_iload X295.here hx (hb hby at_333) rfl ?_
      refine own_iload X295.here hx (hb hby at_335) rfl ?_
      refine own_ixor X295.here hx (hb hby at_337) ?_
      refine own_istore X295.here hx (hb hby at_338) (l' := #[.val (.long q0), .second, .val (.long q1), .second, .val (.int p2), .val (.int 8), .val (.ref b269), .val (.int (q0.toInt32)), .val (.int (own_lu q0 (32 : Int32))), .val (.int (q1.toInt32)), .val (.int 2), .val (.int 0), .val (.int ((own_mb (own_mb (0 : Int32) (q0.toInt32)) (own_lu q0 (32 : Int32))) ^^^ (8 : Int32))), .val (.int (q1.toInt32)), .unset]) rfl ?_
      refine own_iload X295.here hx (hb hby at_340) rfl ?_
      refine own_iload X295.here hx (hb hby at_342) rfl ?_
      refine own_bipush X295.here hx (16 : Int32) (hb hby at_344) rfl ?_
      refine own_iushr X295.here hx (hb hby at_346) ?_
      refine own_ixor X295.here hx (hb hby at_347) ?_
      show Steps p.tables e below (T295.setTop (mkF m 348 #[.val (.long q0), .second, .val (.long q1), .second, .val (.int p2), .val (.int 8), .val (.ref b269), .val (.int (q0.toInt32)), .val (.int (own_lu q0 (32 : Int32))), .val (.int (q1.toInt32)), .val (.int 2), .val (.int 0), .val (.int ((own_mb (own_mb (0 : Int32) (q0.toInt32)) (own_lu q0 (32 : Int32))) ^^^ (8 : Int32))), .val (.int (q1.toInt32)), .unset] [(.int (own_x16 ((own_mb (own_mb (0 : Int32) (q0.toInt32)) (own_lu q0 (32 : Int32))) ^^^ (8 : Int32))))])) _
      refine own_istore X295.here hx (hb hby at_348) (l' := #[.val (.long q0), .second, .val (.long q1), .second, .val (.int p2), .val (.int 8), .val (.ref b269), .val (.int (q0.toInt32)), .val (.int (own_lu q0 (32 : Int32))), .val (.int (q1.toInt32)), .val (.int 2), .val (.int 0), .val (.int (own_x16 ((own_mb (own_mb (0 : Int32) (q0.toInt32)) (own_lu q0 (32 : Int32))) ^^^ (8 : Int32)))), .val (.int (q1.toInt32)), .unset]) rfl ?_
      refine own_iload X295.here hx (hb hby at_350) rfl ?_
      refine X295.ldcInt hx hown (mvT hZ (hw _ (List.mem_of_getElem? (i := 2) rfl))) (g := (mkF m 352 #[.val (.long q0), .second, .val (.long q1), .second, .val (.int p2), .val (.int 8), .val (.ref b269), .val (.int (q0.toInt32)), .val (.int (own_lu q0 (32 : Int32))), .val (.int (q1.toInt32)), .val (.int 2), .val (.int 0), .val (.int (own_x16 ((own_mb (own_mb (0 : Int32) (q0.toInt32)) (own_lu q0 (32 : Int32))) ^^^ (8 : Int32)))), .val (.int (q1.toInt32)), .unset] [(.int (own_x16 ((own_mb (own_mb (0 : Int32) (q0.toInt32)) (own_lu q0 (32 : Int32))) ^^^ (8 : Int32))))])) rfl (hb hby at_352) _ ?_
      show Steps p.tables e below (T295.setTop (mkF m 354 #[.val (.long q0), .second, .val (.long q1), .second, .val (.int p2), .val (.int 8), .val (.ref b269), .val (.int (q0.toInt32)), .val (.int (own_lu q0 (32 : Int32))), .val (.int (q1.toInt32)), .val (.int 2), .val (.int 0), .val (.int (own_x16 ((own_mb (own_mb (0 : Int32) (q0.toInt32)) (own_lu q0 (32 : Int32))) ^^^ (8 : Int32)))), .val (.int (q1.toInt32)), .unset] [(.int (-2048144789)), (.int (own_x16 ((own_mb (own_mb (0 : Int32) (q0.toInt32)) (own_lu q0 (32 : Int32))) ^^^ (8 : Int32))))])) _
      refine own_imul X295.here hx (hb hby at_354) ?_
      refine own_istore X295.here hx (hb hby at_355) (l' := #[.val (.long q0), .second, .val (.long q1), .second, .val (.int p2), .val (.int 8), .val (.ref b269), .val (.int (q0.toInt32)), .val (.int (own_lu q0 (32 : Int32))), .val (.int (q1.toInt32)), .val (.int 2), .val (.int 0), .val (.int ((own_x16 ((own_mb (own_mb (0 : Int32) (q0.toInt32)) (own_lu q0 (32 : Int32))) ^^^ (8 : Int32))) * (-2048144789 : Int32))), .val (.int (q1.toInt32)), .unset]) rfl ?_
      refine own_iload X295.here hx (hb hby at_357) rfl ?_
      refine own_iload X295.here hx (hb hby at_359) rfl ?_
      refine own_bipush X295.here hx (13 : Int32) (hb hby at_361) rfl ?_
      refine own_iushr X295.here hx (hb hby at_363) ?_
      refine own_ixor X295.here hx (hb hby at_364) ?_
      show Steps p.tables e below (T295.setTop (mkF m 365 #[.val (.long q0), .second, .val (.long q1), .second, .val (.int p2), .val (.int 8), .val (.ref b269), .val (.int (q0.toInt32)), .val (.int (own_lu q0 (32 : Int32))), .val (.int (q1.toInt32)), .val (.int 2), .val (.int 0), .val (.int ((own_x16 ((own_mb (own_mb (0 : Int32) (q0.toInt32)) (own_lu q0 (32 : Int32))) ^^^ (8 : Int32))) * (-2048144789 : Int32))), .val (.int (q1.toInt32)), .unset] [(.int (own_x13 ((own_x16 ((own_mb (own_mb (0 : Int32) (q0.toInt32)) (own_lu q0 (32 : Int32))) ^^^ (8 : Int32))) * (-2048144789 : Int32))))])) _
      refine own_istore X295.here hx (hb hby at_365) (l' := #[.val (.long q0), .second, .val (.long q1), .second, .val (.int p2), .val (.int 8), .val (.ref b269), .val (.int (q0.toInt32)), .val (.int (own_lu q0 (32 : Int32))), .val (.int (q1.toInt32)), .val (.int 2), .val (.int 0), .val (.int (own_x13 ((own_x16 ((own_mb (own_mb (0 : Int32) (q0.toInt32)) (own_lu q0 (32 : Int32))) ^^^ (8 : Int32))) * (-2048144789 : Int32)))), .val (.int (q1.toInt32)), .unset]) rfl ?_
      refine own_iload X295.here hx (hb hby at_367) rfl ?_
      refine X295.ldcInt hx hown (mvT hZ (hw _ (List.mem_of_getElem? (i := 3) rfl))) (g := (mkF m 369 #[.val (.long q0), .second, .val (.long q1), .second, .val (.int p2), .val (.int 8), .val (.ref b269), .val (.int (q0.toInt32)), .val (.int (own_lu q0 (32 : Int32))), .val (.int (q1.toInt32)), .val (.int 2), .val (.int 0), .val (.int (own_x13 ((own_x16 ((own_mb (own_mb (0 : Int32) (q0.toInt32)) (own_lu q0 (32 : Int32))) ^^^ (8 : Int32))) * (-2048144789 : Int32)))), .val (.int (q1.toInt32)), .unset] [(.int (own_x13 ((own_x16 ((own_mb (own_mb (0 : Int32) (q0.toInt32)) (own_lu q0 (32 : Int32))) ^^^ (8 : Int32))) * (-2048144789 : Int32))))])) rfl (hb hby at_369) _ ?_
      show Steps p.tables e below (T295.setTop (mkF m 371 #[.val (.long q0), .second, .val (.long q1), .second, .val (.int p2), .val (.int 8), .val (.ref b269), .val (.int (q0.toInt32)), .val (.int (own_lu q0 (32 : Int32))), .val (.int (q1.toInt32)), .val (.int 2), .val (.int 0), .val (.int (own_x13 ((own_x16 ((own_mb (own_mb (0 : Int32) (q0.toInt32)) (own_lu q0 (32 : Int32))) ^^^ (8 : Int32))) * (-2048144789 : Int32)))), .val (.int (q1.toInt32)), .unset] [(.int (-1028477387)), (.int (own_x13 ((own_x16 ((own_mb (own_mb (0 : Int32) (q0.toInt32)) (own_lu q0 (32 : Int32))) ^^^ (8 : Int32))) * (-2048144789 : Int32))))])) _
      refine own_imul X295.here hx (hb hby at_371) ?_
      refine own_istore X295.here hx (hb hby at_372) (l' := #[.val (.long q0), .second, .val (.long q1), .second, .val (.int p2), .val (.int 8), .val (.ref b269), .val (.int (q0.toInt32)), .val (.int (own_lu q0 (32 : Int32))), .val (.int (q1.toInt32)), .val (.int 2), .val (.int 0), .val (.int ((own_x13 ((own_x16 ((own_mb (own_mb (0 : Int32) (q0.toInt32)) (own_lu q0 (32 : Int32))) ^^^ (8 : Int32))) * (-2048144789 : Int32))) * (-1028477387 : Int32))), .val (.int (q1.toInt32)), .unset]) rfl ?_
      refine own_iload X295.here hx (hb hby at_374) rfl ?_
      refine own_iload X295.here hx (hb hby at_376) rfl ?_
      refine own_bipush X295.here hx (16 : Int32) (hb hby at_378) rfl ?_
      refine own_iushr X295.here hx (hb hby at_380) ?_
      refine own_ixor X295.here hx (hb hby at_381) ?_
      show Steps p.tables e below (T295.setTop (mkF m 382 #[.val (.long q0), .second, .val (.long q1), .second, .val (.int p2), .val (.int 8), .val (.ref b269), .val (.int (q0.toInt32)), .val (.int (own_lu q0 (32 : Int32))), .val (.int (q1.toInt32)), .val (.int 2), .val (.int 0), .val (.int ((own_x13 ((own_x16 ((own_mb (own_mb (0 : Int32) (q0.toInt32)) (own_lu q0 (32 : Int32))) ^^^ (8 : Int32))) * (-2048144789 : Int32))) * (-1028477387 : Int32))), .val (.int (q1.toInt32)), .unset] [(.int (own_fin ((own_mb (own_mb (0 : Int32) (q0.toInt32)) (own_lu q0 (32 : Int32))) ^^^ (8 : Int32))))])) _
      refine own_istore X295.here hx (hb hby at_382) (l' := #[.val (.long q0), .second, .val (.long q1), .second, .val (.int p2), .val (.int 8), .val (.ref b269), .val (.int (q0.toInt32)), .val (.int (own_lu q0 (32 : Int32))), .val (.int (q1.toInt32)), .val (.int 2), .val (.int 0), .val (.int (own_fin ((own_mb (own_mb (0 : Int32) (q0.toInt32)) (own_lu q0 (32 : Int32))) ^^^ (8 : Int32)))), .val (.int (q1.toInt32)), .unset]) rfl ?_
      refine own_aload X295.here hx (hb hby at_384) rfl rfl ?_
      refine st296 _ ?_
      show Steps p.tables e below (T296.setTop (mkF m 389 #[.val (.long q0), .second, .val (.long q1), .second, .val (.int p2), .val (.int 8), .val (.ref b269), .val (.int (q0.toInt32)), .val (.int (own_lu q0 (32 : Int32))), .val (.int (q1.toInt32)), .val (.int 2), .val (.int 0), .val (.int (own_fin ((own_mb (own_mb (0 : Int32) (q0.toInt32)) (own_lu q0 (32 : Int32))) ^^^ (8 : Int32)))), .val (.int (q1.toInt32)), .unset] [(.int (own_fin (((own_mb (own_mb (0 : Int32) (own_blk (own_by (q0.toInt32)) (own_by (own_lu q0 (8 : Int32))) (own_by (own_lu q0 (16 : Int32))) (own_by (own_lu q0 (24 : Int32))))) (own_blk (own_by (own_lu q0 (32 : Int32))) (own_by (own_lu q0 (40 : Int32))) (own_by (own_lu q0 (48 : Int32))) (own_by (own_lu q0 (56 : Int32))))) ^^^ (own_scr (0 : Int32))) ^^^ (8 : Int32))))])) _
      refine own_iload X296.here hx (hb hby at_389) rfl ?_
      refine own_icmpNo X296.here hx (hb hby at_391) (teq (by first | decide +kernel | simp only [own_blk0, own_blk1, own_t1e, own_t20, own_t21, own_t30, own_t31, own_scr0, Int32.xor_zero] : (own_fin (((own_mb (own_mb (0 : Int32) (own_blk (own_by (q0.toInt32)) (own_by (own_lu q0 (8 : Int32))) (own_by (own_lu q0 (16 : Int32))) (own_by (own_lu q0 (24 : Int32))))) (own_blk (own_by (own_lu q0 (32 : Int32))) (own_by (own_lu q0 (40 : Int32))) (own_by (own_lu q0 (48 : Int32))) (own_by (own_lu q0 (56 : Int32))))) ^^^ (own_scr (0 : Int32))) ^^^ (8 : Int32))) = (own_fin ((own_mb (own_mb (0 : Int32) (q0.toInt32)) (own_lu q0 (32 : Int32))) ^^^ (8 : Int32))))).2 ?_
      refine own_iconst X296.here hx (1 : Int32) (hb hby at_394) rfl ?_
      refine own_goto X296.here hx 395 399 rfl (hb hby at_395) (by decide) (by decide) ?_
      exact retN X296 hx (t := .boolean) Bd.returns (by simp) (hb hby at_399) hr
    · show Q0 Z q0 q1 p2 h0 n0 _ T296.heap _
      rw [e296]
      exact ⟨rfl, N296⟩
  · obtain ⟨T297, h297, k297, X297, e297, E297, A297, st297⟩ := newP X0 hx hZ (hw _ (List.mem_of_getElem? (i := 1) rfl)) e0 (g := (mkF m 12 #[.val (.long q0), .second, .val (.long q1), .second, .val (.int p2), .val (.int 9), .unset, .unset, .unset, .unset, .unset, .unset, .unset, .unset, .unset] [(.int 9)])) rfl (hb hby at_12) rfl (by decide) (cap := 9) (by decide) (by decide) (by decide) (by decide)
    obtain ⟨b297, g297⟩ : ∃ z, z = h0.size := ⟨_, rfl⟩
    rw [← g297] at A297 st297
    have E297' := E297
    have gg297 : n0 ≤ b297 := Nat.le_trans Z0 (Nat.le_of_eq g297.symm)
    have Z297 : n0 ≤ h297.size := Nat.le_trans Z0 E297.1
    have V297 : Arv Z h297 b297 k297 .byte (9 : Int32) [(.int 0), (.int 0), (.int 0), (.int 0), (.int 0), (.int 0), (.int 0), (.int 0), (.int 0)] (.int 0) := (Arv.new A297 (by decide)).pad (pad_rep [] (.int 0) 9)
    obtain ⟨cl298, Ar298, q298, S298, M298, H298, J298⟩ := id V297
    have hin298 : ¬ ((0 : Int32) < 0 ∨ cl298.slots.size ≤ ((0 : Int32)).toNatClampNeg) := inb_of S298 ⟨by decide, by decide⟩
    obtain ⟨T299, h299, X299, e299, W299, st299⟩ := stB X297 hx hZ e297 Ar298 (j := (0 : Int32)) hin298 (g := (mkF m 27 #[.val (.long q0), .second, .val (.long q1), .second, .val (.int p2), .val (.int 9), .val (.ref b297), .unset, .unset, .unset, .unset, .unset, .unset, .unset, .unset] [(.int ((q0.toInt32).toInt8.toInt32)), (.int 0), (.ref b297)])) rfl rfl (hb hby at_27)
    have V299 : Arv Z h299 b297 k297 .byte (9 : Int32) [(.int (own_by (q0.toInt32))), (.int 0), (.int 0), (.int 0), (.int 0), (.int 0), (.int 0), (.int 0), (.int 0)] (.int 0) := Arv.set Ar298 q298 S298 M298 H298 J298 (fits_nar_byte _) W299 0 rfl (Nat.le_of_ble_eq_true rfl)
    have N299 := Fr.snoc X299 N0 gg297
    have Z299 : n0 ≤ h299.size := Nat.le_trans Z297 (Keep.of_wr W299).1
    obtain ⟨cl301, Ar301, q301, S301, M301, H301, J301⟩ := id V299
    have hin301 : ¬ ((1 : Int32) < 0 ∨ cl301.slots.size ≤ ((1 : Int32)).toNatClampNeg) := inb_of S301 ⟨by decide, by decide⟩
    obtain ⟨T302, h302, X302, e302, W302, st302⟩ := stB X299 hx hZ e299 Ar301 (j := (1 : Int32)) hin301 (g := (mkF m 43 #[.val (.long q0), .second, .val (.long q1), .second, .val (.int p2), .val (.int 9), .val (.ref b297), .unset, .unset, .unset, .unset, .unset, .unset, .unset, .unset] [(.int ((own_lu q0 (8 : Int32)).toInt8.toInt32)), (.int 1), (.ref b297)])) rfl rfl (hb hby at_43)
    have V302 : Arv Z h302 b297 k297 .byte (9 : Int32) [(.int (own_by (q0.toInt32))), (.int (own_by (own_lu q0 (8 : Int32)))), (.int 0), (.int 0), (.int 0), (.int 0), (.int 0), (.int 0), (.int 0)] (.int 0) := Arv.set Ar301 q301 S301 M301 H301 J301 (fits_nar_byte _) W302 1 rfl (Nat.le_of_ble_eq_true rfl)
    have N302 := Fr.snoc X302 N299 gg297
    have Z302 : n0 ≤ h302.size := Nat.le_trans Z299 (Keep.of_wr W302).1
    obtain ⟨cl304, Ar304, q304, S304, M304, H304, J304⟩ := id V302
    have hin304 : ¬ ((2 : Int32) < 0 ∨ cl304.slots.size ≤ ((2 : Int32)).toNatClampNeg) := inb_of S304 ⟨by decide, by decide⟩
    obtain ⟨T305, h305, X305, e305, W305, st305⟩ := stB X302 hx hZ e302 Ar304 (j := (2 : Int32)) hin304 (g := (mkF m 59 #[.val (.long q0), .second, .val (.long q1), .second, .val (.int p2), .val (.int 9), .val (.ref b297), .unset, .unset, .unset, .unset, .unset, .unset, .unset, .unset] [(.int ((own_lu q0 (16 : Int32)).toInt8.toInt32)), (.int 2), (.ref b297)])) rfl rfl (hb hby at_59)
    have V305 : Arv Z h305 b297 k297 .byte (9 : Int32) [(.int (own_by (q0.toInt32))), (.int (own_by (own_lu q0 (8 : Int32)))), (.int (own_by (own_lu q0 (16 : Int32)))), (.int 0), (.int 0), (.int 0), (.int 0), (.int 0), (.int 0)] (.int 0) := Arv.set Ar304 q304 S304 M304 H304 J304 (fits_nar_byte _) W305 2 rfl (Nat.le_of_ble_eq_true rfl)
    have N305 := Fr.snoc X305 N302 gg297
    have Z305 : n0 ≤ h305.size := Nat.le_trans Z302 (Keep.of_wr W305).1
    obtain ⟨cl307, Ar307, q307, S307, M307, H307, J307⟩ := id V305
    have hin307 : ¬ ((3 : Int32) < 0 ∨ cl307.slots.size ≤ ((3 : Int32)).toNatClampNeg) := inb_of S307 ⟨by decide, by decide⟩
    obtain ⟨T308, h308, X308, e308, W308, st308⟩ := stB X305 hx hZ e305 Ar307 (j := (3 : Int32)) hin307 (g := (mkF m 75 #[.val (.long q0), .second, .val (.long q1), .second, .val (.int p2), .val (.int 9), .val (.ref b297), .unset, .unset, .unset, .unset, .unset, .unset, .unset, .unset] [(.int ((own_lu q0 (24 : Int32)).toInt8.toInt32)), (.int 3), (.ref b297)])) rfl rfl (hb hby at_75)
    have V308 : Arv Z h308 b297 k297 .byte (9 : Int32) [(.int (own_by (q0.toInt32))), (.int (own_by (own_lu q0 (8 : Int32)))), (.int (own_by (own_lu q0 (16 : Int32)))), (.int (own_by (own_lu q0 (24 : Int32)))), (.int 0), (.int 0), (.int 0), (.int 0), (.int 0)] (.int 0) := Arv.set Ar307 q307 S307 M307 H307 J307 (fits_nar_byte _) W308 3 rfl (Nat.le_of_ble_eq_true rfl)
    have N308 := Fr.snoc X308 N305 gg297
    have Z308 : n0 ≤ h308.size := Nat.le_trans Z305 (Keep.of_wr W308).1
    obtain ⟨cl310, Ar310, q310, S310, M310, H310, J310⟩ := id V308
    have hin310 : ¬ ((4 : Int32) < 0 ∨ cl310.slots.size ≤ ((4 : Int32)).toNatClampNeg) := inb_of S310 ⟨by decide, by decide⟩
    obtain ⟨T311, h311, X311, e311, W311, st311⟩ := stB X308 hx hZ e308 Ar310 (j := (4 : Int32)) hin310 (g := (mkF m 91 #[.val (.long q0), .second, .val (.long q1), .second, .val (.int p2), .val (.int 9), .val (.ref b297), .unset, .unset, .unset, .unset, .unset, .unset, .unset, .unset] [(.int ((own_lu q0 (32 : Int32)).toInt8.toInt32)), (.int 4), (.ref b297)])) rfl rfl (hb hby at_91)
    have V311 : Arv Z h311 b297 k297 .byte (9 : Int32) [(.int (own_by (q0.toInt32))), (.int (own_by (own_lu q0 (8 : Int32)))), (.int (own_by (own_lu q0 (16 : Int32)))), (.int (own_by (own_lu q0 (24 : Int32)))), (.int (own_by (own_lu q0 (32 : Int32)))), (.int 0), (.int 0), (.int 0), (.int 0)] (.int 0) := Arv.set Ar310 q310 S310 M310 H310 J310 (fits_nar_byte _) W311 4 rfl (Nat.le_of_ble_eq_true rfl)
    have N311 := Fr.snoc X311 N308 gg297
    have Z311 : n0 ≤ h311.size := Nat.le_trans Z308 (Keep.of_wr W311).1
    obtain ⟨cl313, Ar313, q313, S313, M313, H313, J313⟩ := id V311
    have hin313 : ¬ ((5 : Int32) < 0 ∨ cl313.slots.size ≤ ((5 : Int32)).toNatClampNeg) := inb_of S313 ⟨by decide, by decide⟩
    obtain ⟨T314, h314, X314, e314, W314, st314⟩ := stB X311 hx hZ e311 Ar313 (j := (5 : Int32)) hin313 (g := (mkF m 107 #[.val (.long q0), .second, .val (.long q1), .second, .val (.int p2), .val (.int 9), .val (.ref b297), .unset, .unset, .unset, .unset, .unset, .unset, .unset, .unset] [(.int ((own_lu q0 (40 : Int32)).toInt8.toInt32)), (.int 5), (.ref b297)])) rfl rfl (hb hby at_107)
    have V314 : Arv Z h314 b297 k297 .byte (9 : Int32) [(.int (own_by (q0.toInt32))), (.int (own_by (own_lu q0 (8 : Int32)))), (.int (own_by (own_lu q0 (16 : Int32)))), (.int (own_by (own_lu q0 (24 : Int32)))), (.int (own_by (own_lu q0 (32 : Int32)))), (.int (own_by (own_lu q0 (40 : Int32)))), (.int 0), (.int 0), (.int 0)] (.int 0) := Arv.set Ar313 q313 S313 M313 H313 J313 (fits_nar_byte _) W314 5 rfl (Nat.le_of_ble_eq_true rfl)
    have N314 := Fr.snoc X314 N311 gg297
    have Z314 : n0 ≤ h314.size := Nat.le_trans Z311 (Keep.of_wr W314).1
    obtain ⟨cl316, Ar316, q316, S316, M316, H316, J316⟩ := id V314
    have hin316 : ¬ ((6 : Int32) < 0 ∨ cl316.slots.size ≤ ((6 : Int32)).toNatClampNeg) := inb_of S316 ⟨by decide, by decide⟩
    obtain ⟨T317, h317, X317, e317, W317, st317⟩ := stB X314 hx hZ e314 Ar316 (j := (6 : Int32)) hin316 (g := (mkF m 125 #[.val (.long q0), .second, .val (.long q1), .second, .val (.int p2), .val (.int 9), .val (.ref b297), .unset, .unset, .unset, .unset, .unset, .unset, .unset, .unset] [(.int ((own_lu q0 (48 : Int32)).toInt8.toInt32)), (.int 6), (.ref b297)])) rfl rfl (hb hby at_125)
    have V317 : Arv Z h317 b297 k297 .byte (9 : Int32) [(.int (own_by (q0.toInt32))), (.int (own_by (own_lu q0 (8 : Int32)))), (.int (own_by (own_lu q0 (16 : Int32)))), (.int (own_by (own_lu q0 (24 : Int32)))), (.int (own_by (own_lu q0 (32 : Int32)))), (.int (own_by (own_lu q0 (40 : Int32)))), (.int (own_by (own_lu q0 (48 : Int32)))), (.int 0), (.int 0)] (.int 0) := Arv.set Ar316 q316 S316 M316 H316 J316 (fits_nar_byte _) W317 6 rfl (Nat.le_of_ble_eq_true rfl)
    have N317 := Fr.snoc X317 N314 gg297
    have Z317 : n0 ≤ h317.size := Nat.le_trans Z314 (Keep.of_wr W317).1
    obtain ⟨cl319, Ar319, q319, S319, M319, H319, J319⟩ := id V317
    have hin319 : ¬ ((7 : Int32) < 0 ∨ cl319.slots.size ≤ ((7 : Int32)).toNatClampNeg) := inb_of S319 ⟨by decide, by decide⟩
    obtain ⟨T320, h320, X320, e320, W320, st320⟩ := stB X317 hx hZ e317 Ar319 (j := (7 : Int32)) hin319 (g := (mkF m 143 #[.val (.long q0), .second, .val (.long q1), .second, .val (.int p2), .val (.int 9), .val (.ref b297), .unset, .unset, .unset, .unset, .unset, .unset, .unset, .unset] [(.int ((own_lu q0 (56 : Int32)).toInt8.toInt32)), (.int 7), (.ref b297)])) rfl rfl (hb hby at_143)
    have V320 : Arv Z h320 b297 k297 .byte (9 : Int32) [(.int (own_by (q0.toInt32))), (.int (own_by (own_lu q0 (8 : Int32)))), (.int (own_by (own_lu q0 (16 : Int32)))), (.int (own_by (own_lu q0 (24 : Int32)))), (.int (own_by (own_lu q0 (32 : Int32)))), (.int (own_by (own_lu q0 (40 : Int32)))), (.int (own_by (own_lu q0 (48 : Int32)))), (.int (own_by (own_lu q0 (56 : Int32)))), (.int 0)] (.int 0) := Arv.set Ar319 q319 S319 M319 H319 J319 (fits_nar_byte _) W320 7 rfl (Nat.le_of_ble_eq_true rfl)
    have N320 := Fr.snoc X320 N317 gg297
    have Z320 : n0 ≤ h320.size := Nat.le_trans Z317 (Keep.of_wr W320).1
    obtain ⟨cl322, Ar322, q322, S322, M322, H322, J322⟩ := id V320
    have hin322 : ¬ ((8 : Int32) < 0 ∨ cl322.slots.size ≤ ((8 : Int32)).toNatClampNeg) := inb_of S322 ⟨by decide, by decide⟩
    obtain ⟨T323, h323, X323, e323, W323, st323⟩ := stB X320 hx hZ e320 Ar322 (j := (8 : Int32)) hin322 (g := (mkF m 158 #[.val (.long q0), .second, .val (.long q1), .second, .val (.int p2), .val (.int 9), .val (.ref b297), .unset, .unset, .unset, .unset, .unset, .unset, .unset, .unset] [(.int ((q1.toInt32).toInt8.toInt32)), (.int 8), (.ref b297)])) rfl rfl (hb hby at_158)
    have V323 : Arv Z h323 b297 k297 .byte (9 : Int32) [(.int (own_by (q0.toInt32))), (.int (own_by (own_lu q0 (8 : Int32)))), (.int (own_by (own_lu q0 (16 : Int32)))), (.int (own_by (own_lu q0 (24 : Int32)))), (.int (own_by (own_lu q0 (32 : Int32)))), (.int (own_by (own_lu q0 (40 : Int32)))), (.int (own_by (own_lu q0 (48 : Int32)))), (.int (own_by (own_lu q0 (56 : Int32)))), (.int (own_by (q1.toInt32)))] (.int 0) := Arv.set Ar322 q322 S322 M322 H322 J322 (fits_nar_byte _) W323 8 rfl (Nat.le_of_ble_eq_true rfl)
    have N323 := Fr.snoc X323 N320 gg297
    have Z323 : n0 ≤ h323.size := Nat.le_trans Z320 (Keep.of_wr W323).1
    obtain ⟨_, _, ⟨T325, L325, k325, n325⟩, -, X325, ⟨Lc325, hQ325, l325, y325, z325⟩, st325⟩ := Jvm.LawKit.callS X323 hx (y := (⟨"com/example/forkline/forkline/bucketing/MurmurHash3Hash32PinLaw", "mixBlock", "(II)I"⟩ : MethodName)) hown (mvT hZ (hw _ (List.mem_of_getElem? (i := 22) rfl))) (mvT hZ (hw _ (List.mem_of_getElem? (i := 23) rfl))) (mvT hZ (hw _ (List.mem_of_getElem? (i := 24) rfl))) (mvT hZ (hw _ (List.mem_of_getElem? (i := 25) rfl))) (by decide) (backOf (W := 0) (rm4 l Z a0 hw [] (0 : Int32) (q0.toInt32) h323 n0 Z323) hZ (hw _ (List.mem_of_getElem? (i := 25) rfl)) (hw _ (List.mem_of_getElem? (i := 24) rfl)) (by decide) (by decide)) (g := (mkF m 235 #[.val (.long q0), .second, .val (.long q1), .second, .val (.int p2), .val (.int 9), .val (.ref b297), .val (.int (q0.toInt32)), .val (.int (own_lu q0 (32 : Int32))), .val (.int (q1.toInt32)), .val (.int 2), .val (.int 1), .val (.int 0), .unset, .unset] [(.int (q0.toInt32)), (.int 0)])) rfl (by rw [hml]; rfl) (argsL := [(.int 0), (.int (q0.toInt32))]) (rest := []) (lenOf pd_28II29I rfl) rfl (by show 2 * 0 + _ ≤ _; exact Nat.le_of_eq rfl) (hb hby at_235) (fun _ _ => ⟨rfl, e323, (by decide : 1 + 0 ≤ _), (by decide : 9 + 0 ≤ _)⟩)
    dsimp only [Pt.U, Pt.locs, Pt.cells, Pt.slots] at X325 l325 y325 z325 st325 hQ325
    subst l325 y325 z325
    obtain ⟨rfl, N325q, e325⟩ := hQ325
    have N325 := Fr.app N323 N325q
    obtain ⟨_, _, ⟨T326, L326, k326, n326⟩, -, X326, ⟨Lc326, hQ326, l326, y326, z326⟩, st326⟩ := Jvm.LawKit.callS X325 hx (y := (⟨"com/example/forkline/forkline/bucketing/MurmurHash3Hash32PinLaw", "mixBlock", "(II)I"⟩ : MethodName)) hown (mvT hZ (hw _ (List.mem_of_getElem? (i := 22) rfl))) (mvT hZ (hw _ (List.mem_of_getElem? (i := 23) rfl))) (mvT hZ (hw _ (List.mem_of_getElem? (i := 24) rfl))) (mvT hZ (hw _ (List.mem_of_getElem? (i := 25) rfl))) (by decide) (backOf (W := 0) (rm4 l Z a0 hw [] (own_mb (0 : Int32) (q0.toInt32)) (own_lu q0 (32 : Int32)) h323 n0 Z323) hZ (hw _ (List.mem_of_getElem? (i := 25) rfl)) (hw _ (List.mem_of_getElem? (i := 24) rfl)) (by decide) (by decide)) (g := (mkF m 250 #[.val (.long q0), .second, .val (.long q1), .second, .val (.int p2), .val (.int 9), .val (.ref b297), .val (.int (q0.toInt32)), .val (.int (own_lu q0 (32 : Int32))), .val (.int (q1.toInt32)), .val (.int 2), .val (.int 1), .val (.int (own_mb (0 : Int32) (q0.toInt32))), .unset, .unset] [(.int (own_lu q0 (32 : Int32))), (.int (own_mb (0 : Int32) (q0.toInt32)))])) rfl (by rw [hml]; rfl) (argsL := [(.int (own_mb (0 : Int32) (q0.toInt32))), (.int (own_lu q0 (32 : Int32)))]) (rest := []) (lenOf pd_28II29I rfl) rfl (by show 2 * 0 + _ ≤ _; exact Nat.le_of_eq rfl) (hb hby at_250) (fun _ _ => ⟨rfl, e325, (by decide : 1 + 0 ≤ _), (by decide : 9 + 0 ≤ _)⟩)
    dsimp only [Pt.U, Pt.locs, Pt.cells, Pt.slots] at X326 l326 y326 z326 st326 hQ326
    subst l326 y326 z326
    obtain ⟨rfl, N326q, e326⟩ := hQ326
    have N326 := Fr.app N325 N326q
    obtain ⟨_, _, ⟨T327, L327, k327, n327⟩, -, X327, ⟨Lc327, hQ327, l327, y327, z327⟩, st327⟩ := Jvm.LawKit.callS X326 hx (y := (⟨"com/example/forkline/forkline/bucketing/MurmurHash3", "hash32", "([B)I"⟩ : MethodName)) hown (mvT hZ (hw _ (List.mem_of_getElem? (i := 4) rfl))) (mvT hZ (hw _ (List.mem_of_getElem? (i := 5) rfl))) (mvT hZ (hw _ (List.mem_of_getElem? (i := 6) rfl))) (mvT hZ (hw _ (List.mem_of_getElem? (i := 7) rfl))) (by decide) (backOf (W := 0) (rmH_9 l Z a0 hw [] b297 k297 (own_by (q0.toInt32)) (own_by (own_lu q0 (8 : Int32))) (own_by (own_lu q0 (16 : Int32))) (own_by (own_lu q0 (24 : Int32))) (own_by (own_lu q0 (32 : Int32))) (own_by (own_lu q0 (40 : Int32))) (own_by (own_lu q0 (48 : Int32))) (own_by (own_lu q0 (56 : Int32))) (own_by (q1.toInt32)) h323 n0 Z323 V323) hZ (hw _ (List.mem_of_getElem? (i := 7) rfl)) (hw _ (List.mem_of_getElem? (i := 6) rfl)) (by decide) (by decide)) (g := (mkF m 386 #[.val (.long q0), .second, .val (.long q1), .second, .val (.int p2), .val (.int 9), .val (.ref b297), .val (.int (q0.toInt32)), .val (.int (own_lu q0 (32 : Int32))), .val (.int (q1.toInt32)), .val (.int 2), .val (.int 1), .val (.int (own_fin (((own_mb (own_mb (0 : Int32) (q0.toInt32)) (own_lu q0 (32 : Int32))) ^^^ (own_scr ((q1.toInt32) &&& (255 : Int32)))) ^^^ (9 : Int32)))), .val (.int (q1.toInt32)), .val (.int (own_scr ((q1.toInt32) &&& (255 : Int32))))] [(.ref b297)])) rfl (by rw [hml]; rfl) (argsL := [(.ref b297)]) (rest := []) (lenOf pd_285bB29I rfl) rfl (by show 2 * 0 + _ ≤ _; exact Nat.le_of_eq rfl) (hb hby at_386) (fun _ _ => ⟨rfl, e326, (by decide : 1 + 0 ≤ _), (by decide : 9 + 0 ≤ _)⟩)
    dsimp only [Pt.U, Pt.locs, Pt.cells, Pt.slots] at X327 l327 y327 z327 st327 hQ327
    subst l327 y327 z327
    obtain ⟨rfl, N327q, e327⟩ := hQ327
    have N327 := Fr.app N326 N327q
    obtain ⟨fs, hr, hrun, hended, hW, hsame⟩ := X327.leave (v := some (.int 1)) (fun h => by rw [Bd.returns] at h; cases h)
    refine ⟨_, _, pre0 _ ?_, hrun, hended, _, _, rfl, ?_, ⟨_, rfl⟩, hW, hsame.mono (by decide) (by decide)⟩
    · refine G164 _ ?_
      rw [hn]
      refine own_iload X0.here hx (hb hby at_10) rfl ?_
      refine st297 _ ?_
      show Steps p.tables e below (T297.setTop (mkF m 14 #[.val (.long q0), .second, .val (.long q1), .second, .val (.int p2), .val (.int 9), .unset, .unset, .unset, .unset, .unset, .unset, .unset, .unset, .unset] [(.ref b297)])) _
      refine own_astore X297.here hx (hb hby at_14) rfl (l' := #[.val (.long q0), .second, .val (.long q1), .second, .val (.int p2), .val (.int 9), .val (.ref b297), .unset, .unset, .unset, .unset, .unset, .unset, .unset, .unset]) rfl ?_
      refine own_iload X297.here hx (hb hby at_16) rfl ?_
      refine own_ifNo X297.here hx (hb hby at_18) ((if0 _ _).trans (tlt (by decide : (0 : Int32) < (9 : Int32))).2.2.2) ?_
      refine own_aload X297.here hx (hb hby at_21) rfl rfl ?_
      refine own_iconst X297.here hx (0 : Int32) (hb hby at_23) rfl ?_
      refine own_lloadN X297.here hx (hb hby at_24) rfl ?_
      refine own_l2i X297.here hx (hb hby at_25) ?_
      refine own_i2b X297.here hx (hb hby at_26) ?_
      refine st299 _ ?_
      show Steps p.tables e below (T299.setTop (mkF m 28 #[.val (.long q0), .second, .val (.long q1), .second, .val (.int p2), .val (.int 9), .val (.ref b297), .unset, .unset, .unset, .unset, .unset, .unset, .unset, .unset] [])) _
      refine own_iload X299.here hx (hb hby at_28) rfl ?_
      refine own_iconst X299.here hx (1 : Int32) (hb hby at_30) rfl ?_
      refine own_icmpNo X299.here hx (hb hby at_31) (tlt (by decide : (1 : Int32) < (9 : Int32))).2.2.2 ?_
      refine own_aload X299.here hx (hb hby at_34) rfl rfl ?_
      refine own_iconst X299.here hx (1 : Int32) (hb hby at_36) rfl ?_
      refine own_lloadN X299.here hx (hb hby at_37) rfl ?_
      refine own_bipush X299.here hx (8 : Int32) (hb hby at_38) rfl ?_
      refine own_lushr X299.here hx (hb hby at_40) ?_
      refine own_l2i X299.here hx (hb hby at_41) ?_
      show Steps p.tables e below (T299.setTop (mkF m 42 #[.val (.long q0), .second, .val (.long q1), .second, .val (.int p2), .val (.int 9), .val (.ref b297), .unset, .unset, .unset, .unset, .unset, .unset, .unset, .unset] [(.int (own_lu q0 (8 : Int32))), (.int 1), (.ref b297)])) _
      refine own_i2b X299.here hx (hb hby at_42) ?_
      refine st302 _ ?_
      show Steps p.tables e below (T302.setTop (mkF m 44 #[.val (.long q0), .second, .val (.long q1), .second, .val (.int p2), .val (.int 9), .val (.ref b297), .unset, .unset, .unset, .unset, .unset, .unset, .unset, .unset] [])) _
      refine own_iload X302.here hx (hb hby at_44) rfl ?_
      refine own_iconst X302.here hx (2 : Int32) (hb hby at_46) rfl ?_
      refine own_icmpNo X302.here hx (hb hby at_47) (tlt (by decide : (2 : Int32) < (9 : Int32))).2.2.2 ?_
      refine own_aload X302.here hx (hb hby at_50) rfl rfl ?_
      refine own_iconst X302.here hx (2 : Int32) (hb hby at_52) rfl ?_
      refine own_lloadN X302.here hx (hb hby at_53) rfl ?_
      refine own_bipush X302.here hx (16 : Int32) (hb hby at_54) rfl ?_
      refine own_lushr X302.here hx (hb hby at_56) ?_
      refine own_l2i X302.here hx (hb hby at_57) ?_
      show Steps p.tables e below (T302.setTop (mkF m 58 #[.val (.long q0), .second, .val (.long q1), .second, .val (.int p2), .val (.int 9), .val (.ref b297), .unset, .unset, .unset, .unset, .unset, .unset, .unset, .unset] [(.int (own_lu q0 (16 : Int32))), (.int 2), (.ref b297)])) _
      refine own_i2b X302.here hx (hb hby at_58) ?_
      refine st305 _ ?_
      show Steps p.tables e below (T305.setTop (mkF m 60 #[.val (.long q0), .second, .val (.long q1), .second, .val (.int p2), .val (.int 9), .val (.ref b297), .unset, .unset, .unset, .unset, .unset, .unset, .unset, .unset] [])) _
      refine own_iload X305.here hx (hb hby at_60) rfl ?_
      refine own_iconst X305.here hx (3 : Int32) (hb hby at_62) rfl ?_
      refine own_icmpNo X305.here hx (hb hby at_63) (tlt (by decide : (3 : Int32) < (9 : Int32))).2.2.2 ?_
      refine own_aload X305.here hx (hb hby at_66) rfl rfl ?_
      refine own_iconst X305.here hx (3 : Int32) (hb hby at_68) rfl ?_
      refine own_lloadN X305.here hx (hb hby at_69) rfl ?_
      refine own_bipush X305.here hx (24 : Int32) (hb hby at_70) rfl ?_
      refine own_lushr X305.here hx (hb hby at_72) ?_
      refine own_l2i X305.here hx (hb hby at_73) ?_
      show Steps p.tables e below (T305.setTop (mkF m 74 #[.val (.long q0), .second, .val (.long q1), .second, .val (.int p2), .val (.int 9), .val (.ref b297), .unset, .unset, .unset, .unset, .unset, .unset, .unset, .unset] [(.int (own_lu q0 (24 : Int32))), (.int 3), (.ref b297)])) _
      refine own_i2b X305.here hx (hb hby at_74) ?_
      refine st308 _ ?_
      show Steps p.tables e below (T308.setTop (mkF m 76 #[.val (.long q0), .second, .val (.long q1), .second, .val (.int p2), .val (.int 9), .val (.ref b297), .unset, .unset, .unset, .unset, .unset, .unset, .unset, .unset] [])) _
      refine own_iload X308.here hx (hb hby at_76) rfl ?_
      refine own_iconst X308.here hx (4 : Int32) (hb hby at_78) rfl ?_
      refine own_icmpNo X308.here hx (hb hby at_79) (tlt (by decide : (4 : Int32) < (9 : Int32))).2.2.2 ?_
      refine own_aload X308.here hx (hb hby at_82) rfl rfl ?_
      refine own_iconst X308.here hx (4 : Int32) (hb hby at_84) rfl ?_
      refine own_lloadN X308.here hx (hb hby at_85) rfl ?_
      refine own_bipush X308.here hx (32 : Int32) (hb hby at_86) rfl ?_
      refine own_lushr X308.here hx (hb hby at_88) ?_
      refine own_l2i X308.here hx (hb hby at_89) ?_
      show Steps p.tables e below (T308.setTop (mkF m 90 #[.val (.long q0), .second, .val (.long q1), .second, .val (.int p2), .val (.int 9), .val (.ref b297), .unset, .unset, .unset, .unset, .unset, .unset, .unset, .unset] [(.int (own_lu q0 (32 : Int32))), (.int 4), (.ref b297)])) _
      refine own_i2b X308.here hx (hb hby at_90) ?_
      refine st311 _ ?_
      show Steps p.tables e below (T311.setTop (mkF m 92 #[.val (.long q0), .second, .val (.long q1), .second, .val (.int p2), .val (.int 9), .val (.ref b297), .unset, .unset, .unset, .unset, .unset, .unset, .unset, .unset] [])) _
      refine own_iload X311.here hx (hb hby at_92) rfl ?_
      refine own_iconst X311.here hx (5 : Int32) (hb hby at_94) rfl ?_
      refine own_icmpNo X311.here hx (hb hby at_95) (tlt (by decide : (5 : Int32) < (9 : Int32))).2.2.2 ?_
      refine own_aload X311.here hx (hb hby at_98) rfl rfl ?_
      refine own_iconst X311.here hx (5 : Int32) (hb hby at_100) rfl ?_
      refine own_lloadN X311.here hx (hb hby at_101) rfl ?_
      refine own_bipush X311.here hx (40 : Int32) (hb hby at_102) rfl ?_
      refine own_lushr X311.here hx (hb hby at_104) ?_
      refine own_l2i X311.here hx (hb hby at_105) ?_
      show Steps p.tables e below (T311.setTop (mkF m 106 #[.val (.long q0), .second, .val (.long q1), .second, .val (.int p2), .val (.int 9), .val (.ref b297), .unset, .unset, .unset, .unset, .unset, .unset, .unset, .unset] [(.int (own_lu q0 (40 : Int32))), (.int 5), (.ref b297)])) _
      refine own_i2b X311.here hx (hb hby at_106) ?_
      refine st314 _ ?_
      show Steps p.tables e below (T314.setTop (mkF m 108 #[.val (.long q0), .second, .val (.long q1), .second, .val (.int p2), .val (.int 9), .val (.ref b297), .unset, .unset, .unset, .unset, .unset, .unset, .unset, .unset] [])) _
      refine own_iload X314.here hx (hb hby at_108) rfl ?_
      refine own_bipush X314.here hx (6 : Int32) (hb hby at_110) rfl ?_
      refine own_icmpNo X314.here hx (hb hby at_112) (tlt (by decide : (6 : Int32) < (9 : Int32))).2.2.2 ?_
      refine own_aload X314.here hx (hb hby at_115) rfl rfl ?_
      refine own_bipush X314.here hx (6 : Int32) (hb hby at_117) rfl ?_
      refine own_lloadN X314.here hx (hb hby at_119) rfl ?_
      refine own_bipush X314.here hx (48 : Int32) (hb hby at_120) rfl ?_
      refine own_lushr X314.here hx (hb hby at_122) ?_
      refine own_l2i X314.here hx (hb hby at_123) ?_
      show Steps p.tables e below (T314.setTop (mkF m 124 #[.val (.long q0), .second, .val (.long q1), .second, .val (.int p2), .val (.int 9), .val (.ref b297), .unset, .unset, .unset, .unset, .unset, .unset, .unset, .unset] [(.int (own_lu q0 (48 : Int32))), (.int 6), (.ref b297)])) _
      refine own_i2b X314.here hx (hb hby at_124) ?_
      refine st317 _ ?_
      show Steps p.tables e below (T317.setTop (mkF m 126 #[.val (.long q0), .second, .val (.long q1), .second, .val (.int p2), .val (.int 9), .val (.ref b297), .unset, .unset, .unset, .unset, .unset, .unset, .unset, .unset] [])) _
      refine own_iload X317.here hx (hb hby at_126) rfl ?_
      refine own_bipush X317.here hx (7 : Int32) (hb hby at_128) rfl ?_
      refine own_icmpNo X317.here hx (hb hby at_130) (tlt (by decide : (7 : Int32) < (9 : Int32))).2.2.2 ?_
      refine own_aload X317.here hx (hb hby at_133) rfl rfl ?_
      refine own_bipush X317.here hx (7 : Int32) (hb hby at_135) rfl ?_
      refine own_lloadN X317.here hx (hb hby at_137) rfl ?_
      refine own_bipush X317.here hx (56 : Int32) (hb hby at_138) rfl ?_
      refine own_lushr X317.here hx (hb hby at_140) ?_
      refine own_l2i X317.here hx (hb hby at_141) ?_
      show Steps p.tables e below (T317.setTop (mkF m 142 #[.val (.long q0), .second, .val (.long q1), .second, .val (.int p2), .val (.int 9), .val (.ref b297), .unset, .unset, .unset, .unset, .unset, .unset, .unset, .unset] [(.int (own_lu q0 (56 : Int32))), (.int 7), (.ref b297)])) _
      refine own_i2b X317.here hx (hb hby at_142) ?_
      refine st320 _ ?_
      show Steps p.tables e below (T320.setTop (mkF m 144 #[.val (.long q0), .second, .val (.long q1), .second, .val (.int p2), .val (.int 9), .val (.ref b297), .unset, .unset, .unset, .unset, .unset, .unset, .unset, .unset] [])) _
      refine own_iload X320.here hx (hb hby at_144) rfl ?_
      refine own_bipush X320.here hx (8 : Int32) (hb hby at_146) rfl ?_
      refine own_icmpNo X320.here hx (hb hby at_148) (tlt (by decide : (8 : Int32) < (9 : Int32))).2.2.2 ?_
      refine own_aload X320.here hx (hb hby at_151) rfl rfl ?_
      refine own_bipush X320.here hx (8 : Int32) (hb hby at_153) rfl ?_
      refine own_lloadN X320.here hx (hb hby at_155) rfl ?_
      refine own_l2i X320.here hx (hb hby at_156) ?_
      refine own_i2b X320.here hx (hb hby at_157) ?_
      refine st323 _ ?_
      show Steps p.tables e below (T323.setTop (mkF m 159 #[.val (.long q0), .second, .val (.long q1), .second, .val (.int p2), .val (.int 9), .val (.ref b297), .unset, .unset, .unset, .unset, .unset, .unset, .unset, .unset] [])) _
      refine own_iload X323.here hx (hb hby at_159) rfl ?_
      refine own_bipush X323.here hx (9 : Int32) (hb hby at_161) rfl ?_
      refine own_icmpYes X323.here hx 163 177 rfl (hb hby at_163) (flt (by decide : ¬ ((9 : Int32) < (9 : Int32)))).2.2.2 (by decide) (by decide) ?_
      refine own_iload X323.here hx (hb hby at_177) rfl ?_
      refine own_bipush X323.here hx (10 : Int32) (hb hby at_179) rfl ?_
      refine own_icmpYes X323.here hx 181 195 rfl (hb hby at_181) (flt (by decide : ¬ ((10 : Int32) < (9 : Int32)))).2.2.2 (by decide) (by decide) ?_
      refine own_lloadN X323.here hx (hb hby at_195) rfl ?_
      refine own_l2i X323.here hx (hb hby at_196) ?_
      refine own_istore X323.here hx (hb hby at_197) (l' := #[.val (.long q0), .second, .val (.long q1), .second, .val (.int p2), .val (.int 9), .val (.ref b297), .val (.int (q0.toInt32)), .unset, .unset, .unset, .unset, .unset, .unset, .unset]) rfl ?_
      refine own_lloadN X323.here hx (hb hby at_199) rfl ?_
      refine own_bipush X323.here hx (32 : Int32) (hb hby at_200) rfl ?_
      refine own_lushr X323.here hx (hb hby at_202) ?_
      refine own_l2i X323.here hx (hb hby at_203) ?_
      show Steps p.tables e below (T323.setTop (mkF m 204 #[.val (.long q0), .second, .val (.long q1), .second, .val (.int p2), .val (.int 9), .val (.ref b297), .val (.int (q0.toInt32)), .unset, .unset, .unset, .unset, .unset, .unset, .unset] [(.int (own_lu q0 (32 : Int32)))])) _
      refine own_istore X323.here hx (hb hby at_204) (l' := #[.val (.long q0), .second, .val (.long q1), .second, .val (.int p2), .val (.int 9), .val (.ref b297), .val (.int (q0.toInt32)), .val (.int (own_lu q0 (32 : Int32))), .unset, .unset, .unset, .unset, .unset, .unset]) rfl ?_
      refine own_lloadN X323.here hx (hb hby at_206) rfl ?_
      refine own_l2i X323.here hx (hb hby at_207) ?_
      refine own_istore X323.here hx (hb hby at_208) (l' := #[.val (.long q0), .second, .val (.long q1), .second, .val (.int p2), .val (.int 9), .val (.ref b297), .val (.int (q0.toInt32)), .val (.int (own_lu q0 (32 : Int32))), .val (.int (q1.toInt32)), .unset, .unset, .unset, .unset, .unset]) rfl ?_
      refine own_iload X323.here hx (hb hby at_210) rfl ?_
      refine own_iconst X323.here hx (4 : Int32) (hb hby at_212) rfl ?_
      refine own_idiv X323.here hx (hb hby at_213) (by decide) ?_
      show Steps p.tables e below (T323.setTop (mkF m 214 #[.val (.long q0), .second, .val (.long q1), .second, .val (.int p2), .val (.int 9), .val (.ref b297), .val (.int (q0.toInt32)), .val (.int (own_lu q0 (32 : Int32))), .val (.int (q1.toInt32)), .unset, .unset, .unset, .unset, .unset] [(.int 2)])) _
      refine own_istore X323.here hx (hb hby at_214) (l' := #[.val (.long q0), .second, .val (.long q1), .second, .val (.int p2), .val (.int 9), .val (.ref b297), .val (.int (q0.toInt32)), .val (.int (own_lu q0 (32 : Int32))), .val (.int (q1.toInt32)), .val (.int 2), .unset, .unset, .unset, .unset]) rfl ?_
      refine own_iload X323.here hx (hb hby at_216) rfl ?_
      refine own_iconst X323.here hx (4 : Int32) (hb hby at_218) rfl ?_
      refine own_irem X323.here hx (hb hby at_219) (by decide) ?_
      show Steps p.tables e below (T323.setTop (mkF m 220 #[.val (.long q0), .second, .val (.long q1), .second, .val (.int p2), .val (.int 9), .val (.ref b297), .val (.int (q0.toInt32)), .val (.int (own_lu q0 (32 : Int32))), .val (.int (q1.toInt32)), .val (.int 2), .unset, .unset, .unset, .unset] [(.int 1)])) _
      refine own_istore X323.here hx (hb hby at_220) (l' := #[.val (.long q0), .second, .val (.long q1), .second, .val (.int p2), .val (.int 9), .val (.ref b297), .val (.int (q0.toInt32)), .val (.int (own_lu q0 (32 : Int32))), .val (.int (q1.toInt32)), .val (.int 2), .val (.int 1), .unset, .unset, .unset]) rfl ?_
      refine own_iconst X323.here hx (0 : Int32) (hb hby at_222) rfl ?_
      refine own_istore X323.here hx (hb hby at_223) (l' := #[.val (.long q0), .second, .val (.long q1), .second, .val (.int p2), .val (.int 9), .val (.ref b297), .val (.int (q0.toInt32)), .val (.int (own_lu q0 (32 : Int32))), .val (.int (q1.toInt32)), .val (.int 2), .val (.int 1), .val (.int 0), .unset, .unset]) rfl ?_
      refine own_iload X323.here hx (hb hby at_225) rfl ?_
      refine own_iconst X323.here hx (1 : Int32) (hb hby at_227) rfl ?_
      refine own_icmpNo X323.here hx (hb hby at_228) (flt (by decide : ¬ ((2 : Int32) < (1 : Int32)))).1 ?_
      refine own_iload X323.here hx (hb hby at_231) rfl ?_
      refine own_iload X323.here hx (hb hby at_233) rfl ?_
      refine st325 _ ?_
      show Steps p.tables e below (T325.setTop (mkF m 238 #[.val (.long q0), .second, .val (.long q1), .second, .val (.int p2), .val (.int 9), .val (.ref b297), .val (.int (q0.toInt32)), .val (.int (own_lu q0 (32 : Int32))), .val (.int (q1.toInt32)), .val (.int 2), .val (.int 1), .val (.int 0), .unset, .unset] [(.int (own_mb (0 : Int32) (q0.toInt32)))])) _
      refine own_istore X325.here hx (hb hby at_238) (l' := #[.val (.long q0), .second, .val (.long q1), .second, .val (.int p2), .val (.int 9), .val (.ref b297), .val (.int (q0.toInt32)), .val (.int (own_lu q0 (32 : Int32))), .val (.int (q1.toInt32)), .val (.int 2), .val (.int 1), .val (.int (own_mb (0 : Int32) (q0.toInt32))), .unset, .unset]) rfl ?_
      refine own_iload X325.here hx (hb hby at_240) rfl ?_
      refine own_iconst X325.here hx (2 : Int32) (hb hby at_242) rfl ?_
      refine own_icmpNo X325.here hx (hb hby at_243) (flt (by decide : ¬ ((2 : Int32) < (2 : Int32)))).1 ?_
      refine own_iload X325.here hx (hb hby at_246) rfl ?_
      refine own_iload X325.here hx (hb hby at_248) rfl ?_
      refine st326 _ ?_
      show Steps p.tables e below (T326.setTop (mkF m 253 #[.val (.long q0), .second, .val (.long q1), .second, .val (.int p2), .val (.int 9), .val (.ref b297), .val (.int (q0.toInt32)), .val (.int (own_lu q0 (32 : Int32))), .val (.int (q1.toInt32)), .val (.int 2), .val (.int 1), .val (.int (own_mb (0 : Int32) (q0.toInt32))), .unset, .unset] [(.int (own_mb (own_mb (0 : Int32) (q0.toInt32)) (own_lu q0 (32 : Int32))))])) _
      refine own_istore X326.here hx (hb hby at_253) (l' := #[.val (.long q0), .second, .val (.long q1), .second, .val (.int p2), .val (.int 9), .val (.ref b297), .val (.int (q0.toInt32)), .val (.int (own_lu q0 (32 : Int32))), .val (.int (q1.toInt32)), .val (.int 2), .val (.int 1), .val (.int (own_mb (own_mb (0 : Int32) (q0.toInt32)) (own_lu q0 (32 : Int32)))), .unset, .unset]) rfl ?_
      refine own_iload X326.here hx (hb hby at_255) rfl ?_
      refine own_ifYes X326.here hx 257 265 rfl (hb hby at_257) ((if0 _ _).trans (feq (by decide : ¬ ((2 : Int32) = (0 : Int32)))).2) (by decide) (by decide) ?_
      refine own_iload X326.here hx (hb hby at_265) rfl ?_
      refine own_iconst X326.here hx (1 : Int32) (hb hby at_267) rfl ?_
      refine own_icmpYes X326.here hx 268 276 rfl (hb hby at_268) (feq (by decide : ¬ ((2 : Int32) = (1 : Int32)))).2 (by decide) (by decide) ?_
      refine own_iload X326.here hx (hb hby at_276) rfl ?_
      refine own_istore X326.here hx (hb hby at_278) (l' := #[.val (.long q0), .second, .val (.long q1), .second, .val (.int p2), .val (.int 9), .val (.ref b297), .val (.int (q0.toInt32)), .val (.int (own_lu q0 (32 : Int32))), .val (.int (q1.toInt32)), .val (.int 2), .val (.int 1), .val (.int (own_mb (own_mb (0 : Int32) (q0.toInt32)) (own_lu q0 (32 : Int32)))), .val (.int (q1.toInt32)), .unset]) rfl ?_
      refine own_iload X326.here hx (hb hby at_280) rfl ?_
      refine own_ifNo X326.here hx (hb hby at_282) ((if0 _ _).trans (tlt (by decide : (0 : Int32) < (1 : Int32))).2.2.2) ?_
      refine own_iload X326.here hx (hb hby at_285) rfl ?_
      refine own_iconst X326.here hx (1 : Int32) (hb hby at_287) rfl ?_
      refine own_bipush X326.here hx (8 : Int32) (hb hby at_288) rfl ?_
      refine own_iload X326.here hx (hb hby at_290) rfl ?_
      refine own_imul X326.here hx (hb hby at_292) ?_
      show Steps p.tables e below (T326.setTop (mkF m 293 #[.val (.long q0), .second, .val (.long q1), .second, .val (.int p2), .val (.int 9), .val (.ref b297), .val (.int (q0.toInt32)), .val (.int (own_lu q0 (32 : Int32))), .val (.int (q1.toInt32)), .val (.int 2), .val (.int 1), .val (.int (own_mb (own_mb (0 : Int32) (q0.toInt32)) (own_lu q0 (32 : Int32)))), .val (.int (q1.toInt32)), .unset] [(.int 8), (.int 1), (.int (q1.toInt32))])) _
      refine own_ishl X326.here hx (hb hby at_293) ?_
      show Steps p.tables e below (T326.setTop (mkF m 294 #[.val (.long q0), .second, .val (.long q1), .second, .val (.int p2), .val (.int 9), .val (.ref b297), .val (.int (q0.toInt32)), .val (.int (own_lu q0 (32 : Int32))), .val (.int (q1.toInt32)), .val (.int 2), .val (.int 1), .val (.int (own_mb (own_mb (0 : Int32) (q0.toInt32)) (own_lu q0 (32 : Int32)))), .val (.int (q1.toInt32)), .unset] [(.int 256), (.int (q1.toInt32))])) _
      refine own_iconst X326.here hx (1 : Int32) (hb hby at_294) rfl ?_
      refine own_isub X326.here hx (hb hby at_295) ?_
      show Steps p.tables e below (T326.setTop (mkF m 296 #[.val (.long q0), .second, .val (.long q1), .second, .val (.int p2), .val (.int 9), .val (.ref b297), .val (.int (q0.toInt32)), .val (.int (own_lu q0 (32 : Int32))), .val (.int (q1.toInt32)), .val (.int 2), .val (.int 1), .val (.int (own_mb (own_mb (0 : Int32) (q0.toInt32)) (own_lu q0 (32 : Int32)))), .val (.int (q1.toInt32)), .unset] [(.int 255), (.int (q1.toInt32))])) _
      refine own_iand X326.here hx (hb hby at_296) ?_
      show Steps p.tables e below (T326.setTop (mkF m 297 #[.val (.long q0), .second, .val (.long q1), .second, .val (.int p2), .val (.int 9), .val (.ref b297), .val (.int (q0.toInt32)), .val (.int (own_lu q0 (32 : Int32))), .val (.int (q1.toInt32)), .val (.int 2), .val (.int 1), .val (.int (own_mb (own_mb (0 : Int32) (q0.toInt32)) (own_lu q0 (32 : Int32)))), .val (.int (q1.toInt32)), .unset] [(.int ((q1.toInt32) &&& (255 : Int32)))])) _
      refine own_istore X326.here hx (hb hby at_297) (l' := #[.val (.long q0), .second, .val (.long q1), .second, .val (.int p2), .val (.int 9), .val (.ref b297), .val (.int (q0.toInt32)), .val (.int (own_lu q0 (32 : Int32))), .val (.int (q1.toInt32)), .val (.int 2), .val (.int 1), .val (.int (own_mb (own_mb (0 : Int32) (q0.toInt32)) (own_lu q0 (32 : Int32)))), .val (.int (q1.toInt32)), .val (.int ((q1.toInt32) &&& (255 : Int32)))]) rfl ?_
      refine own_iload X326.here hx (hb hby at_299) rfl ?_
      refine X326.ldcInt hx hown (mvT hZ (hw _ (List.mem_of_getElem? (i := 26) rfl))) (g := (mkF m 301 #[.val (.long q0), .second, .val (.long q1), .second, .val (.int p2), .val (.int 9), .val (.ref b297), .val (.int (q0.toInt32)), .val (.int (own_lu q0 (32 : Int32))), .val (.int (q1.toInt32)), .val (.int 2), .val (.int 1), .val (.int (own_mb (own_mb (0 : Int32) (q0.toInt32)) (own_lu q0 (32 : Int32)))), .val (.int (q1.toInt32)), .val (.int ((q1.toInt32) &&& (255 : Int32)))] [(.int ((q1.toInt32) &&& (255 : Int32)))])) rfl (hb hby at_301) _ ?_
      show Steps p.tables e below (T326.setTop (mkF m 303 #[.val (.long q0), .second, .val (.long q1), .second, .val (.int p2), .val (.int 9), .val (.ref b297), .val (.int (q0.toInt32)), .val (.int (own_lu q0 (32 : Int32))), .val (.int (q1.toInt32)), .val (.int 2), .val (.int 1), .val (.int (own_mb (own_mb (0 : Int32) (q0.toInt32)) (own_lu q0 (32 : Int32)))), .val (.int (q1.toInt32)), .val (.int ((q1.toInt32) &&& (255 : Int32)))] [(.int (-862048943)), (.int ((q1.toInt32) &&& (255 : Int32)))])) _
      refine own_imul X326.here hx (hb hby at_303) ?_
      refine own_istore X326.here hx (hb hby at_304) (l' := #[.val (.long q0), .second, .val (.long q1), .second, .val (.int p2), .val (.int 9), .val (.ref b297), .val (.int (q0.toInt32)), .val (.int (own_lu q0 (32 : Int32))), .val (.int (q1.toInt32)), .val (.int 2), .val (.int 1), .val (.int (own_mb (own_mb (0 : Int32) (q0.toInt32)) (own_lu q0 (32 : Int32)))), .val (.int (q1.toInt32)), .val (.int (((q1.toInt32) &&& (255 : Int32)) * (-862048943 : Int32)))]) rfl ?_
      refine own_iload X326.here hx (hb hby at_306) rfl ?_
      refine own_bipush X326.here hx (15 : Int32) (hb hby at_308) rfl ?_
      refine own_ishl X326.here hx (hb hby at_310) ?_
      refine own_iload X326.here hx (hb hby at_311) rfl ?_
      refine own_bipush X326.here hx (17 : Int32) (hb hby at_313) rfl ?_
      refine own_iushr X326.here hx (hb hby at_315) ?_
      refine own_ior X326.here hx (hb hby at_316) ?_
      show Steps p.tables e below (T326.setTop (mkF m 317 #[.val (.long q0), .second, .val (.long q1), .second, .val (.int p2), .val (.int 9), .val (.ref b297), .val (.int (q0.toInt32)), .val (.int (own_lu q0 (32 : Int32))), .val (.int (q1.toInt32)), .val (.int 2), .val (.int 1), .val (.int (own_mb (own_mb (0 : Int32) (q0.toInt32)) (own_lu q0 (32 : Int32)))), .val (.int (q1.toInt32)), .val (.int (((q1.toInt32) &&& (255 : Int32)) * (-862048943 : Int32)))] [(.int (own_rotl (((q1.toInt32) &&& (255 : Int32)) * (-862048943 : Int32)) (15 : Int32)))])) _
      refine own_istore X326.here hx (hb hby at_317) (l' := #[.val (.long q0), .second, .val (.long q1), .second, .val (.int p2), .val (.int 9), .val (.ref b297), .val (.int (q0.toInt32)), .val (.int (own_lu q0 (32 : Int32))), .val (.int (q1.toInt32)), .val (.int 2), .val (.int 1), .val (.int (own_mb (own_mb (0 : Int32) (q0.toInt32)) (own_lu q0 (32 : Int32)))), .val (.int (q1.toInt32)), .val (.int (own_rotl (((q1.toInt32) &&& (255 : Int32)) * (-862048943 : Int32)) (15 : Int32)))]) rfl ?_
      refine own_iload X326.here hx (hb hby at_319) rfl ?_
      refine X326.ldcInt hx hown (mvT hZ (hw _ (List.mem_of_getElem? (i := 27) rfl))) (g := (mkF m 321 #[.val (.long q0), .second, .val (.long q1), .second, .val (.int p2), .val (.int 9), .val (.ref b297), .val (.int (q0.toInt32)), .val (.int (own_lu q0 (32 : Int32))), .val (.int (q1.toInt32)), .val (.int 2), .val (.int 1), .val (.int (own_mb (own_mb (0 : Int32) (q0.toInt32)) (own_lu q0 (32 : Int32)))), .val (.int (q1.toInt32)), .val (.int (own_rotl (((q1.toInt32) &&& (255 : Int32)) * (-862048943 : Int32)) (15 : Int32)))] [(.int (own_rotl (((q1.toInt32) &&& (255 : Int32)) * (-862048943 : Int32)) (15 : Int32)))])) rfl (hb hby at_321) _ ?_
      show Steps p.tables e below (T326.setTop (mkF m 323 #[.val (.long q0), .second, .val (.long q1), .second, .val (.int p2), .val (.int 9), .val (.ref b297), .val (.int (q0.toInt32)), .val (.int (own_lu q0 (32 : Int32))), .val (.int (q1.toInt32)), .val (.int 2), .val (.int 1), .val (.int (own_mb (own_mb (0 : Int32) (q0.toInt32)) (own_lu q0 (32 : Int32)))), .val (.int (q1.toInt32)), .val (.int (own_rotl (((q1.toInt32) &&& (255 : Int32)) * (-862048943 : Int32)) (15 : Int32)))] [(.int 461845907), (.int (own_rotl (((q1.toInt32) &&& (255 : Int32)) * (-862048943 : Int32)) (15 : Int32)))])) _
      refine own_imul X326.here hx (hb hby at_323) ?_
      show Steps p.tables e below (T326.setTop (mkF m 324 #[.val (.long q0), .second, .val (.long q1), .second, .val (.int p2), .val (.int 9), .val (.ref b297), .val (.int (q0.toInt32)), .val (.int (own_lu q0 (32 : Int32))), .val (.int (q1.toInt32)), .val (.int 2), .val (.int 1), .val (.int (own_mb (own_mb (0 : Int32) (q0.toInt32)) (own_lu q0 (32 : Int32)))), .val (.int (q1.toInt32)), .val (.int (own_rotl (((q1.toInt32) &&& (255 : Int32)) * (-862048943 : Int32)) (15 : Int32)))] [(.int (own_scr ((q1.toInt32) &&& (255 : Int32))))])) _
      refine own_istore X326.here hx (hb hby at_324) (l' := #[.val (.long q0), .second, .val (.long q1), .second, .val (.int p2), .val (.int 9), .val (.ref b297), .val (.int (q0.toInt32)), .val (.int (own_lu q0 (32 : Int32))), .val (.int (q1.toInt32)), .val (.int 2), .val (.int 1), .val (.int (own_mb (own_mb (0 : Int32) (q0.toInt32)) (own_lu q0 (32 : Int32)))), .val (.int (q1.toInt32)), .val (.int (own_scr ((q1.toInt32) &&& (255 : Int32))))]) rfl ?_
      refine own_iload X326.here hx (hb hby at_326) rfl ?_
      refine own_iload X326.here hx (hb hby at_328) rfl ?_
      refine own_ixor X326.here hx (hb hby at_330) ?_
      refine own_istore X326.here hx (hb hby at_331) (l' := #[.val (.long q0), .second, .val (.long q1), .second, .val (.int p2), .val (.int 9), .val (.ref b297), .val (.int (q0.toInt32)), .val (.int (own_lu q0 (32 : Int32))), .val (.int (q1.toInt32)), .val (.int 2), .val (.int 1), .val (.int ((own_mb (own_mb (0 : Int32) (q0.toInt32)) (own_lu q0 (32 : Int32))) ^^^ (own_scr ((q1.toInt32) &&& (255 : Int32))))), .val (.int (q1.toInt32)), .val (.int (own_scr ((q1.toInt32) &&& (255 : Int32))))]) rfl ?_
      refine own_iload X326.here hx (hb hby at_333) rfl ?_
      refine own_iload X326.here hx (hb hby at_335) rfl ?_
      refine own_ixor X326.here hx (hb hby at_337) ?_
      refine own_istore X326.here hx (hb hby at_338) (l' := #[.val (.long q0), .second, .val (.long q1), .second, .val (.int p2), .val (.int 9), .val (.ref b297), .val (.int (q0.toInt32)), .val (.int (own_lu q0 (32 : Int32))), .val (.int (q1.toInt32)), .val (.int 2), .val (.int 1), .val (.int (((own_mb (own_mb (0 : Int32) (q0.toInt32)) (own_lu q0 (32 : Int32))) ^^^ (own_scr ((q1.toInt32) &&& (255 : Int32)))) ^^^ (9 : Int32))), .val (.int (q1.toInt32)), .val (.int (own_scr ((q1.toInt32) &&& (255 : Int32))))]) rfl ?_
      refine own_iload X326.here hx (hb hby at_340) rfl ?_
      refine own_iload X326.here hx (hb hby at_342) rfl ?_
      refine own_bipush X326.here hx (16 : Int32) (hb hby at_344) rfl ?_
      refine own_iushr X326.here hx (hb hby at_346) ?_
      refine own_ixor X326.here hx (hb hby at_347) ?_
      show Steps p.tables e below (T326.setTop (mkF m 348 #[.val (.long q0), .second, .val (.long q1), .second, .val (.int p2), .val (.int 9), .val (.ref b297), .val (.int (q0.toInt32)), .val (.int (own_lu q0 (32 : Int32))), .val (.int (q1.toInt32)), .val (.int 2), .val (.int 1), .val (.int (((own_mb (own_mb (0 : Int32) (q0.toInt32)) (own_lu q0 (32 : Int32))) ^^^ (own_scr ((q1.toInt32) &&& (255 : Int32)))) ^^^ (9 : Int32))), .val (.int (q1.toInt32)), .val (.int (own_scr ((q1.toInt32) &&& (255 : Int32))))] [(.int (own_x16 (((own_mb (own_mb (0 : Int32) (q0.toInt32)) (own_lu q0 (32 : Int32))) ^^^ (own_scr ((q1.toInt32) &&& (255 : Int32)))) ^^^ (9 : Int32))))])) _
      refine own_istore X326.here hx (hb hby at_348) (l' := #[.val (.long q0), .second, .val (.long q1), .second, .val (.int p2), .val (.int 9), .val (.ref b297), .val (.int (q0.toInt32)), .val (.int (own_lu q0 (32 : Int32))), .val (.int (q1.toInt32)), .val (.int 2), .val (.int 1), .val (.int (own_x16 (((own_mb (own_mb (0 : Int32) (q0.toInt32)) (own_lu q0 (32 : Int32))) ^^^ (own_scr ((q1.toInt32) &&& (255 : Int32)))) ^^^ (9 : Int32)))), .val (.int (q1.toInt32)), .val (.int (own_scr ((q1.toInt32) &&& (255 : Int32))))]) rfl ?_
      refine own_iload X326.here hx (hb hby at_350) rfl ?_
      refine X326.ldcInt hx hown (mvT hZ (hw _ (List.mem_of_getElem? (i := 2) rfl))) (g := (mkF m 352 #[.val (.long q0), .second, .val (.long q1), .second, .val (.int p2), .val (.int 9), .val (.ref b297), .val (.int (q0.toInt32)), .val (.int (own_lu q0 (32 : Int32))), .val (.int (q1.toInt32)), .val (.int 2), .val (.int 1), .val (.int (own_x16 (((own_mb (own_mb (0 : Int32) (q0.toInt32)) (own_lu q0 (32 : Int32))) ^^^ (own_scr ((q1.toInt32) &&& (255 : Int32)))) ^^^ (9 : Int32)))), .val (.int (q1.toInt32)), .val (.int (own_scr ((q1.toInt32) &&& (255 : Int32))))] [(.int (own_x16 (((own_mb (own_mb (0 : Int32) (q0.toInt32)) (own_lu q0 (32 : Int32))) ^^^ (own_scr ((q1.toInt32) &&& (255 : Int32)))) ^^^ (9 : Int32))))])) rfl (hb hby at_352) _ ?_
      show Steps p.tables e below (T326.setTop (mkF m 354 #[.val (.long q0), .second, .val (.long q1), .second, .val (.int p2), .val (.int 9), .val (.ref b297), .val (.int (q0.toInt32)), .val (.int (own_lu q0 (32 : Int32))), .val (.int (q1.toInt32)), .val (.int 2), .val (.int 1), .val (.int (own_x16 (((own_mb (own_mb (0 : Int32) (q0.toInt32)) (own_lu q0 (32 : Int32))) ^^^ (own_scr ((q1.toInt32) &&& (255 : Int32)))) ^^^ (9 : Int32)))), .val (.int (q1.toInt32)), .val (.int (own_scr ((q1.toInt32) &&& (255 : Int32))))] [(.int (-2048144789)), (.int (own_x16 (((own_mb (own_mb (0 : Int32) (q0.toInt32)) (own_lu q0 (32 : Int32))) ^^^ (own_scr ((q1.toInt32) &&& (255 : Int32)))) ^^^ (9 : Int32))))])) _
      refine own_imul X326.here hx (hb hby at_354) ?_
      refine own_istore X326.here hx (hb hby at_355) (l' := #[.val (.long q0), .second, .val (.long q1), .second, .val (.int p2), .val (.int 9), .val (.ref b297), .val (.int (q0.toInt32)), .val (.int (own_lu q0 (32 : Int32))), .val (.int (q1.toInt32)), .val (.int 2), .val (.int 1), .val (.int ((own_x16 (((own_mb (own_mb (0 : Int32) (q0.toInt32)) (own_lu q0 (32 : Int32))) ^^^ (own_scr ((q1.toInt32) &&& (255 : Int32)))) ^^^ (9 : Int32))) * (-2048144789 : Int32))), .val (.int (q1.toInt32)), .val (.int (own_scr ((q1.toInt32) &&& (255 : Int32))))]) rfl ?_
      refine own_iload X326.here hx (hb hby at_357) rfl ?_
      refine own_iload X326.here hx (hb hby at_359) rfl ?_
      refine own_bipush X326.here hx (13 : Int32) (hb hby at_361) rfl ?_
      refine own_iushr X326.here hx (hb hby at_363) ?_
      refine own_ixor X326.here hx (hb hby at_364) ?_
      show Steps p.tables e below (T326.setTop (mkF m 365 #[.val (.long q0), .second, .val (.long q1), .second, .val (.int p2), .val (.int 9), .val (.ref b297), .val (.int (q0.toInt32)), .val (.int (own_lu q0 (32 : Int32))), .val (.int (q1.toInt32)), .val (.int 2), .val (.int 1), .val (.int ((own_x16 (((own_mb (own_mb (0 : Int32) (q0.toInt32)) (own_lu q0 (32 : Int32))) ^^^ (own_scr ((q1.toInt32) &&& (255 : Int32)))) ^^^ (9 : Int32))) * (-2048144789 : Int32))), .val (.int (q1.toInt32)), .val (.int (own_scr ((q1.toInt32) &&& (255 : Int32))))] [(.int (own_x13 ((own_x16 (((own_mb (own_mb (0 : Int32) (q0.toInt32)) (own_lu q0 (32 : Int32))) ^^^ (own_scr ((q1.toInt32) &&& (255 : Int32)))) ^^^ (9 : Int32))) * (-2048144789 : Int32))))])) _
      refine own_istore X326.here hx (hb hby at_365) (l' := #[.val (.long q0), .second, .val (.long q1), .second, .val (.int p2), .val (.int 9), .val (.ref b297), .val (.int (q0.toInt32)), .val (.int (own_lu q0 (32 : Int32))), .val (.int (q1.toInt32)), .val (.int 2), .val (.int 1), .val (.int (own_x13 ((own_x16 (((own_mb (own_mb (0 : Int32) (q0.toInt32)) (own_lu q0 (32 : Int32))) ^^^ (own_scr ((q1.toInt32) &&& (255 : Int32)))) ^^^ (9 : Int32))) * (-2048144789 : Int32)))), .val (.int (q1.toInt32)), .val (.int (own_scr ((q1.toInt32) &&& (255 : Int32))))]) rfl ?_
      refine own_iload X326.here hx (hb hby at_367) rfl ?_
      refine X326.ldcInt hx hown (mvT hZ (hw _ (List.mem_of_getElem? (i := 3) rfl))) (g := (mkF m 369 #[.val (.long q0), .second, .val (.long q1), .second, .val (.int p2), .val (.int 9), .val (.ref b297), .val (.int (q0.toInt32)), .val (.int (own_lu q0 (32 : Int32))), .val (.int (q1.toInt32)), .val (.int 2), .val (.int 1), .val (.int (own_x13 ((own_x16 (((own_mb (own_mb (0 : Int32) (q0.toInt32)) (own_lu q0 (32 : Int32))) ^^^ (own_scr ((q1.toInt32) &&& (255 : Int32)))) ^^^ (9 : Int32))) * (-2048144789 : Int32)))), .val (.int (q1.toInt32)), .val (.int (own_scr ((q1.toInt32) &&& (255 : Int32))))] [(.int (own_x13 ((own_x16 (((own_mb (own_mb (0 : Int32) (q0.toInt32)) (own_lu q0 (32 : Int32))) ^^^ (own_scr ((q1.toInt32) &&& (255 : Int32)))) ^^^ (9 : Int32))) * (-2048144789 : Int32))))])) rfl (hb hby at_369) _ ?_
      show Steps p.tables e below (T326.setTop (mkF m 371 #[.val (.long q0), .second, .val (.long q1), .second, .val (.int p2), .val (.int 9), .val (.ref b297), .val (.int (q0.toInt32)), .val (.int (own_lu q0 (32 : Int32))), .val (.int (q1.toInt32)), .val (.int 2), .val (.int 1), .val (.int (own_x13 ((own_x16 (((own_mb (own_mb (0 : Int32) (q0.toInt32)) (own_lu q0 (32 : Int32))) ^^^ (own_scr ((q1.toInt32) &&& (255 : Int32)))) ^^^ (9 : Int32))) * (-2048144789 : Int32)))), .val (.int (q1.toInt32)), .val (.int (own_scr ((q1.toInt32) &&& (255 : Int32))))] [(.int (-1028477387)), (.int (own_x13 ((own_x16 (((own_mb (own_mb (0 : Int32) (q0.toInt32)) (own_lu q0 (32 : Int32))) ^^^ (own_scr ((q1.toInt32) &&& (255 : Int32)))) ^^^ (9 : Int32))) * (-2048144789 : Int32))))])) _
      refine own_imul X326.here hx (hb hby at_371) ?_
      refine own_istore X326.here hx (hb hby at_372) (l' := #[.val (.long q0), .second, .val (.long q1), .second, .val (.int p2), .val (.int 9), .val (.ref b297), .val (.int (q0.toInt32)), .val (.int (own_lu q0 (32 : Int32))), .val (.int (q1.toInt32)), .val (.int 2), .val (.int 1), .val (.int ((own_x13 ((own_x16 (((own_mb (own_mb (0 : Int32) (q0.toInt32)) (own_lu q0 (32 : Int32))) ^^^ (own_scr ((q1.toInt32) &&& (255 : Int32)))) ^^^ (9 : Int32))) * (-2048144789 : Int32))) * (-1028477387 : Int32))), .val (.int (q1.toInt32)), .val (.int (own_scr ((q1.toInt32) &&& (255 : Int32))))]) rfl ?_
      refine own_iload X326.here hx (hb hby at_374) rfl ?_
      refine own_iload X326.here hx (hb hby at_376) rfl ?_
      refine own_bipush X326.here hx (16 : Int32) (hb hby at_378) rfl ?_
      refine own_iushr X326.here hx (hb hby at_380) ?_
      refine own_ixor X326.here hx (hb hby at_381) ?_
      show Steps p.tables e below (T326.setTop (mkF m 382 #[.val (.long q0), .second, .val (.long q1), .second, .val (.int p2), .val (.int 9), .val (.ref b297), .val (.int (q0.toInt32)), .val (.int (own_lu q0 (32 : Int32))), .val (.int (q1.toInt32)), .val (.int 2), .val (.int 1), .val (.int ((own_x13 ((own_x16 (((own_mb (own_mb (0 : Int32) (q0.toInt32)) (own_lu q0 (32 : Int32))) ^^^ (own_scr ((q1.toInt32) &&& (255 : Int32)))) ^^^ (9 : Int32))) * (-2048144789 : Int32))) * (-1028477387 : Int32))), .val (.int (q1.toInt32)), .val (.int (own_scr ((q1.toInt32) &&& (255 : Int32))))] [(.int (own_fin (((own_mb (own_mb (0 : Int32) (q0.toInt32)) (own_lu q0 (32 : Int32))) ^^^ (own_scr ((q1.toInt32) &&& (255 : Int32)))) ^^^ (9 : Int32))))])) _
      refine own_istore X326.here hx (hb hby at_382) (l' := #[.val (.long q0), .second, .val (.long q1), .second, .val (.int p2), .val (.int 9), .val (.ref b297), .val (.int (q0.toInt32)), .val (.int (own_lu q0 (32 : Int32))), .val (.int (q1.toInt32)), .val (.int 2), .val (.int 1), .val (.int (own_fin (((own_mb (own_mb (0 : Int32) (q0.toInt32)) (own_lu q0 (32 : Int32))) ^^^ (own_scr ((q1.toInt32) &&& (255 : Int32)))) ^^^ (9 : Int32)))), .val (.int (q1.toInt32)), .val (.int (own_scr ((q1.toInt32) &&& (255 : Int32))))]) rfl ?_
      refine own_aload X326.here hx (hb hby at_384) rfl rfl ?_
      refine st327 _ ?_
      show Steps p.tables e below (T327.setTop (mkF m 389 #[.val (.long q0), .second, .val (.long q1), .second, .val (.int p2), .val (.int 9), .val (.ref b297), .val (.int (q0.toInt32)), .val (.int (own_lu q0 (32 : Int32))), .val (.int (q1.toInt32)), .val (.int 2), .val (.int 1), .val (.int (own_fin (((own_mb (own_mb (0 : Int32) (q0.toInt32)) (own_lu q0 (32 : Int32))) ^^^ (own_scr ((q1.toInt32) &&& (255 : Int32)))) ^^^ (9 : Int32)))), .val (.int (q1.toInt32)), .val (.int (own_scr ((q1.toInt32) &&& (255 : Int32))))] [(.int (own_fin (((own_mb (own_mb (0 : Int32) (own_blk (own_by (q0.toInt32)) (own_by (own_lu q0 (8 : Int32))) (own_by (own_lu q0 (16 : Int32))) (own_by (own_lu q0 (24 : Int32))))) (own_blk (own_by (own_lu q0 (32 : Int32))) (own_by (own_lu q0 (40 : Int32))) (own_by (own_lu q0 (48 : Int32))) (own_by (own_lu q0 (56 : Int32))))) ^^^ (own_scr (own_t1 (own_by (q1.toInt32))))) ^^^ (9 : Int32))))])) _
      refine own_iload X327.here hx (hb hby at_389) rfl ?_
      refine own_icmpNo X327.here hx (hb hby at_391) (teq (by first | decide +kernel | simp only [own_blk0, own_blk1, own_t1e, own_t20, own_t21, own_t30, own_t31, own_scr0, Int32.xor_zero] : (own_fin (((own_mb (own_mb (0 : Int32) (own_blk (own_by (q0.toInt32)) (own_by (own_lu q0 (8 : Int32))) (own_by (own_lu q0 (16 : Int32))) (own_by (own_lu q0 (24 : Int32))))) (own_blk (own_by (own_lu q0 (32 : Int32))) (own_by (own_lu q0 (40 : Int32))) (own_by (own_lu q0 (48 : Int32))) (own_by (own_lu q0 (56 : Int32))))) ^^^ (own_scr (own_t1 (own_by (q1.toInt32))))) ^^^ (9 : Int32))) = (own_fin (((own_mb (own_mb (0 : Int32) (q0.toInt32)) (own_lu q0 (32 : Int32))) ^^^ (own_scr ((q1.toInt32) &&& (255 : Int32)))) ^^^ (9 : Int32))))).2 ?_
      refine own_iconst X327.here hx (1 : Int32) (hb hby at_394) rfl ?_
      refine own_goto X327.here hx 395 399 rfl (hb hby at_395) (by decide) (by decide) ?_
      exact retN X327 hx (t := .boolean) Bd.returns (by simp) (hb hby at_399) hr
    · show Q0 Z q0 q1 p2 h0 n0 _ T327.heap _
      rw [e327]
      exact ⟨rfl, N327⟩
  · obtain ⟨T328, h328, k328, X328, e328, E328, A328, st328⟩ := newP X0 hx hZ (hw _ (List.mem_of_getElem? (i := 1) rfl)) e0 (g := (mkF m 12 #[.val (.long q0), .second, .val (.long q1), .second, .val (.int p2), .val (.int 10), .unset, .unset, .unset, .unset, .unset, .unset, .unset, .unset, .unset] [(.int 10)])) rfl (hb hby at_12) rfl (by decide) (cap := 10) (by decide) (by decide) (by decide) (by decide)
    obtain ⟨b328, g328⟩ : ∃ z, z = h0.size := ⟨_, rfl⟩
    rw [← g328] at A328 st328
    have E328' := E328
    have gg328 : n0 ≤ b328 := Nat.le_trans Z0 (Nat.le_of_eq g328.symm)
    have Z328 : n0 ≤ h328.size := Nat.le_trans Z0 E328.1
    have V328 : Arv Z h328 b328 k328 .byte (10 : Int32) [(.int 0), (.int 0), (.int 0), (.int 0), (.int 0), (.int 0), (.int 0), (.int 0), (.int 0), (.int 0)] (.int 0) := (Arv.new A328 (by decide)).pad (pad_rep [] (.int 0) 10)
    obtain ⟨cl329, Ar329, q329, S329, M329, H329, J329⟩ := id V328
    have hin329 : ¬ ((0 : Int32) < 0 ∨ cl329.slots.size ≤ ((0 : Int32)).toNatClampNeg) := inb_of S329 ⟨by decide, by decide⟩
    obtain ⟨T330, h330, X330, e330, W330, st330⟩ := stB X328 hx hZ e328 Ar329 (j := (0 : Int32)) hin329 (g := (mkF m 27 #[.val (.long q0), .second, .val (.long q1), .second, .val (.int p2), .val (.int 10), .val (.ref b328), .unset, .unset, .unset, .unset, .unset, .unset, .unset, .unset] [(.int ((q0.toInt32).toInt8.toInt32)), (.int 0), (.ref b328)])) rfl rfl (hb hby at_27)
    have V330 : Arv Z h330 b328 k328 .byte (10 : Int32) [(.int (own_by (q0.toInt32))), (.int 0), (.int 0), (.int 0), (.int 0), (.int 0), (.int 0), (.int 0), (.int 0), (.int 0)] (.int 0) := Arv.set Ar329 q329 S329 M329 H329 J329 (fits_nar_byte _) W330 0 rfl (Nat.le_of_ble_eq_true rfl)
    have N330 := Fr.snoc X330 N0 gg328
    have Z330 : n0 ≤ h330.size := Nat.le_trans Z328 (Keep.of_wr W330).1
    obtain ⟨cl332, Ar332, q332, S332, M332, H332, J332⟩ := id V330
    have hin332 : ¬ ((1 : Int32) < 0 ∨ cl332.slots.size ≤ ((1 : Int32)).toNatClampNeg) := inb_of S332 ⟨by decide, by decide⟩
    obtain ⟨T333, h333, X333, e333, W333, st333⟩ := stB X330 hx hZ e330 Ar332 (j := (1 : Int32)) hin332 (g := (mkF m 43 #[.val (.long q0), .second, .val (.long q1), .second, .val (.int p2), .val (.int 10), .val (.ref b328), .unset, .unset, .unset, .unset, .unset, .unset, .unset, .unset] [(.int ((own_lu q0 (8 : Int32)).toInt8.toInt32)), (.int 1), (.ref b328)])) rfl rfl (hb hby at_43)
    have V333 : Arv Z h333 b328 k328 .byte (10 : Int32) [(.int (own_by (q0.toInt32))), (.int (own_by (own_lu q0 (8 : Int32)))), (.int 0), (.int 0), (.int 0), (.int 0), (.int 0), (.int 0), (.int 0), (.int 0)] (.int 0) := Arv.set Ar332 q332 S332 M332 H332 J332 (fits_nar_byte _) W333 1 rfl (Nat.le_of_ble_eq_true rfl)
    have N333 := Fr.snoc X333 N330 gg328
    have Z333 : n0 ≤ h333.size := Nat.le_trans Z330 (Keep.of_wr W333).1
    obtain ⟨cl335, Ar335, q335, S335, M335, H335, J335⟩ := id V333
    have hin335 : ¬ ((2 : Int32) < 0 ∨ cl335.slots.size ≤ ((2 : Int32)).toNatClampNeg) := inb_of S335 ⟨by decide, by decide⟩
    obtain ⟨T336, h336, X336, e336, W336, st336⟩ := stB X333 hx hZ e333 Ar335 (j := (2 : Int32)) hin335 (g := (mkF m 59 #[.val (.long q0), .second, .val (.long q1), .second, .val (.int p2), .val (.int 10), .val (.ref b328), .unset, .unset, .unset, .unset, .unset, .unset, .unset, .unset] [(.int ((own_lu q0 (16 : Int32)).toInt8.toInt32)), (.int 2), (.ref b328)])) rfl rfl (hb hby at_59)
    have V336 : Arv Z h336 b328 k328 .byte (10 : Int32) [(.int (own_by (q0.toInt32))), (.int (own_by (own_lu q0 (8 : Int32)))), (.int (own_by (own_lu q0 (16 : Int32)))), (.int 0), (.int 0), (.int 0), (.int 0), (.int 0), (.int 0), (.int 0)] (.int 0) := Arv.set Ar335 q335 S335 M335 H335 J335 (fits_nar_byte _) W336 2 rfl (Nat.le_of_ble_eq_true rfl)
    have N336 := Fr.snoc X336 N333 gg328
    have Z336 : n0 ≤ h336.size := Nat.le_trans Z333 (Keep.of_wr W336).1
    obtain ⟨cl338, Ar338, q338, S338, M338, H338, J338⟩ := id V336
    have hin338 : ¬ ((3 : Int32) < 0 ∨ cl338.slots.size ≤ ((3 : Int32)).toNatClampNeg) := inb_of S338 ⟨by decide, by decide⟩
    obtain ⟨T339, h339, X339, e339, W339, st339⟩ := stB X336 hx hZ e336 Ar338 (j := (3 : Int32)) hin338 (g := (mkF m 75 #[.val (.long q0), .second, .val (.long q1), .second, .val (.int p2), .val (.int 10), .val (.ref b328), .unset, .unset, .unset, .unset, .unset, .unset, .unset, .unset] [(.int ((own_lu q0 (24 : Int32)).toInt8.toInt32)), (.int 3), (.ref b328)])) rfl rfl (hb hby at_75)
    have V339 : Arv Z h339 b328 k328 .byte (10 : Int32) [(.int (own_by (q0.toInt32))), (.int (own_by (own_lu q0 (8 : Int32)))), (.int (own_by (own_lu q0 (16 : Int32)))), (.int (own_by (own_lu q0 (24 : Int32)))), (.int 0), (.int 0), (.int 0), (.int 0), (.int 0), (.int 0)] (.int 0) := Arv.set Ar338 q338 S338 M338 H338 J338 (fits_nar_byte _) W339 3 rfl (Nat.le_of_ble_eq_true rfl)
    have N339 := Fr.snoc X339 N336 gg328
    have Z339 : n0 ≤ h339.size := Nat.le_trans Z336 (Keep.of_wr W339).1
    obtain ⟨cl341, Ar341, q341, S341, M341, H341, J341⟩ := id V339
    have hin341 : ¬ ((4 : Int32) < 0 ∨ cl341.slots.size ≤ ((4 : Int32)).toNatClampNeg) := inb_of S341 ⟨by decide, by decide⟩
    obtain ⟨T342, h342, X342, e342, W342, st342⟩ := stB X339 hx hZ e339 Ar341 (j := (4 : Int32)) hin341 (g := (mkF m 91 #[.val (.long q0), .second, .val (.long q1), .second, .val (.int p2), .val (.int 10), .val (.ref b328), .unset, .unset, .unset, .unset, .unset, .unset, .unset, .unset] [(.int ((own_lu q0 (32 : Int32)).toInt8.toInt32)), (.int 4), (.ref b328)])) rfl rfl (hb hby at_91)
    have V342 : Arv Z h342 b328 k328 .byte (10 : Int32) [(.int (own_by (q0.toInt32))), (.int (own_by (own_lu q0 (8 : Int32)))), (.int (own_by (own_lu q0 (16 : Int32)))), (.int (own_by (own_lu q0 (24 : Int32)))), (.int (own_by (own_lu q0 (32 : Int32)))), (.int 0), (.int 0), (.int 0), (.int 0), (.int 0)] (.int 0) := Arv.set Ar341 q341 S341 M341 H341 J341 (fits_nar_byte _) W342 4 rfl (Nat.le_of_ble_eq_true rfl)
    have N342 := Fr.snoc X342 N339 gg328
    have Z342 : n0 ≤ h342.size := Nat.le_trans Z339 (Keep.of_wr W342).1
    obtain ⟨cl344, Ar344, q344, S344, M344, H344, J344⟩ := id V342
    have hin344 : ¬ ((5 : Int32) < 0 ∨ cl344.slots.size ≤ ((5 : Int32)).toNatClampNeg) := inb_of S344 ⟨by decide, by decide⟩
    obtain ⟨T345, h345, X345, e345, W345, st345⟩ := stB X342 hx hZ e342 Ar344 (j := (5 : Int32)) hin344 (g := (mkF m 107 #[.val (.long q0), .second, .val (.long q1), .second, .val (.int p2), .val (.int 10), .val (.ref b328), .unset, .unset, .unset, .unset, .unset, .unset, .unset, .unset] [(.int ((own_lu q0 (40 : Int32)).toInt8.toInt32)), (.int 5), (.ref b328)])) rfl rfl (hb hby at_107)
    have V345 : Arv Z h345 b328 k328 .byte (10 : Int32) [(.int (own_by (q0.toInt32))), (.int (own_by (own_lu q0 (8 : Int32)))), (.int (own_by (own_lu q0 (16 : Int32)))), (.int (own_by (own_lu q0 (24 : Int32)))), (.int (own_by (own_lu q0 (32 : Int32)))), (.int (own_by (own_lu q0 (40 : Int32)))), (.int 0), (.int 0), (.int 0), (.int 0)] (.int 0) := Arv.set Ar344 q344 S344 M344 H344 J344 (fits_nar_byte _) W345 5 rfl (Nat.le_of_ble_eq_true rfl)
    have N345 := Fr.snoc X345 N342 gg328
    have Z345 : n0 ≤ h345.size := Nat.le_trans Z342 (Keep.of_wr W345).1
    obtain ⟨cl347, Ar347, q347, S347, M347, H347, J347⟩ := id V345
    have hin347 : ¬ ((6 : Int32) < 0 ∨ cl347.slots.size ≤ ((6 : Int32)).toNatClampNeg) := inb_of S347 ⟨by decide, by decide⟩
    obtain ⟨T348, h348, X348, e348, W348, st348⟩ := stB X345 hx hZ e345 Ar347 (j := (6 : Int32)) hin347 (g := (mkF m 125 #[.val (.long q0), .second, .val (.long q1), .second, .val (.int p2), .val (.int 10), .val (.ref b328), .unset, .unset, .unset, .unset, .unset, .unset, .unset, .unset] [(.int ((own_lu q0 (48 : Int32)).toInt8.toInt32)), (.int 6), (.ref b328)])) rfl rfl (hb hby at_125)
    have V348 : Arv Z h348 b328 k328 .byte (10 : Int32) [(.int (own_by (q0.toInt32))), (.int (own_by (own_lu q0 (8 : Int32)))), (.int (own_by (own_lu q0 (16 : Int32)))), (.int (own_by (own_lu q0 (24 : Int32)))), (.int (own_by (own_lu q0 (32 : Int32)))), (.int (own_by (own_lu q0 (40 : Int32)))), (.int (own_by (own_lu q0 (48 : Int32)))), (.int 0), (.int 0), (.int 0)] (.int 0) := Arv.set Ar347 q347 S347 M347 H347 J347 (fits_nar_byte _) W348 6 rfl (Nat.le_of_ble_eq_true rfl)
    have N348 := Fr.snoc X348 N345 gg328
    have Z348 : n0 ≤ h348.size := Nat.le_trans Z345 (Keep.of_wr W348).1
    obtain ⟨cl350, Ar350, q350, S350, M350, H350, J350⟩ := id V348
    have hin350 : ¬ ((7 : Int32) < 0 ∨ cl350.slots.size ≤ ((7 : Int32)).toNatClampNeg) := inb_of S350 ⟨by decide, by decide⟩
    obtain ⟨T351, h351, X351, e351, W351, st351⟩ := stB X348 hx hZ e348 Ar350 (j := (7 : Int32)) hin350 (g := (mkF m 143 #[.val (.long q0), .second, .val (.long q1), .second, .val (.int p2), .val (.int 10), .val (.ref b328), .unset, .unset, .unset, .unset, .unset, .unset, .unset, .unset] [(.int ((own_lu q0 (56 : Int32)).toInt8.toInt32)), (.int 7), (.ref b328)])) rfl rfl (hb hby at_143)
    have V351 : Arv Z h351 b328 k328 .byte (10 : Int32) [(.int (own_by (q0.toInt32))), (.int (own_by (own_lu q0 (8 : Int32)))), (.int (own_by (own_lu q0 (16 : Int32)))), (.int (own_by (own_lu q0 (24 : Int32)))), (.int (own_by (own_lu q0 (32 : Int32)))), (.int (own_by (own_lu q0 (40 : Int32)))), (.int (own_by (own_lu q0 (48 : Int32)))), (.int (own_by (own_lu q0 (56 : Int32)))), (.int 0), (.int 0)] (.int 0) := Arv.set Ar350 q350 S350 M350 H350 J350 (fits_nar_byte _) W351 7 rfl (Nat.le_of_ble_eq_true rfl)
    have N351 := Fr.snoc X351 N348 gg328
    have Z351 : n0 ≤ h351.size := Nat.le_trans Z348 (Keep.of_wr W351).1
    obtain ⟨cl353, Ar353, q353, S353, M353, H353, J353⟩ := id V351
    have hin353 : ¬ ((8 : Int32) < 0 ∨ cl353.slots.size ≤ ((8 : Int32)).toNatClampNeg) := inb_of S353 ⟨by decide, by decide⟩
    obtain ⟨T354, h354, X354, e354, W354, st354⟩ := stB X351 hx hZ e351 Ar353 (j := (8 : Int32)) hin353 (g := (mkF m 158 #[.val (.long q0), .second, .val (.long q1), .second, .val (.int p2), .val (.int 10), .val (.ref b328), .unset, .unset, .unset, .unset, .unset, .unset, .unset, .unset] [(.int ((q1.toInt32).toInt8.toInt32)), (.int 8), (.ref b328)])) rfl rfl (hb hby at_158)
    have V354 : Arv Z h354 b328 k328 .byte (10 : Int32) [(.int (own_by (q0.toInt32))), (.int (own_by (own_lu q0 (8 : Int32)))), (.int (own_by (own_lu q0 (16 : Int32)))), (.int (own_by (own_lu q0 (24 : Int32)))), (.int (own_by (own_lu q0 (32 : Int32)))), (.int (own_by (own_lu q0 (40 : Int32)))), (.int (own_by (own_lu q0 (48 : Int32)))), (.int (own_by (own_lu q0 (56 : Int32)))), (.int (own_by (q1.toInt32))), (.int 0)] (.int 0) := Arv.set Ar353 q353 S353 M353 H353 J353 (fits_nar_byte _) W354 8 rfl (Nat.le_of_ble_eq_true rfl)
    have N354 := Fr.snoc X354 N351 gg328
    have Z354 : n0 ≤ h354.size := Nat.le_trans Z351 (Keep.of_wr W354).1
    obtain ⟨cl356, Ar356, q356, S356, M356, H356, J356⟩ := id V354
    have hin356 : ¬ ((9 : Int32) < 0 ∨ cl356.slots.size ≤ ((9 : Int32)).toNatClampNeg) := inb_of S356 ⟨by decide, by decide⟩
    obtain ⟨T357, h357, X357, e357, W357, st357⟩ := stB X354 hx hZ e354 Ar356 (j := (9 : Int32)) hin356 (g := (mkF m 176 #[.val (.long q0), .second, .val (.long q1), .second, .val (.int p2), .val (.int 10), .val (.ref b328), .unset, .unset, .unset, .unset, .unset, .unset, .unset, .unset] [(.int ((own_lu q1 (8 : Int32)).toInt8.toInt32)), (.int 9), (.ref b328)])) rfl rfl (hb hby at_176)
    have V357 : Arv Z h357 b328 k328 .byte (10 : Int32) [(.int (own_by (q0.toInt32))), (.int (own_by (own_lu q0 (8 : Int32)))), (.int (own_by (own_lu q0 (16 : Int32)))), (.int (own_by (own_lu q0 (24 : Int32)))), (.int (own_by (own_lu q0 (32 : Int32)))), (.int (own_by (own_lu q0 (40 : Int32)))), (.int (own_by (own_lu q0 (48 : Int32)))), (.int (own_by (own_lu q0 (56 : Int32)))), (.int (own_by (q1.toInt32))), (.int (own_by (own_lu q1 (8 : Int32))))] (.int 0) := Arv.set Ar356 q356 S356 M356 H356 J356 (fits_nar_byte _) W357 9 rfl (Nat.le_of_ble_eq_true rfl)
    have N357 := Fr.snoc X357 N354 gg328
    have Z357 : n0 ≤ h357.size := Nat.le_trans Z354 (Keep.of_wr W357).1
    obtain ⟨_, _, ⟨T359, L359, k359, n359⟩, -, X359, ⟨Lc359, hQ359, l359, y359, z359⟩, st359⟩ := Jvm.LawKit.callS X357 hx (y := (⟨"com/example/forkline/forkline/bucketing/MurmurHash3Hash32PinLaw", "mixBlock", "(II)I"⟩ : MethodName)) hown (mvT hZ (hw _ (List.mem_of_getElem? (i := 22) rfl))) (mvT hZ (hw _ (List.mem_of_getElem? (i := 23) rfl))) (mvT hZ (hw _ (List.mem_of_getElem? (i := 24) rfl))) (mvT hZ (hw _ (List.mem_of_getElem? (i := 25) rfl))) (by decide) (backOf (W := 0) (rm4 l Z a0 hw [] (0 : Int32) (q0.toInt32) h357 n0 Z357) hZ (hw _ (List.mem_of_getElem? (i := 25) rfl)) (hw _ (List.mem_of_getElem? (i := 24) rfl)) (by decide) (by decide)) (g := (mkF m 235 #[.val (.long q0), .second, .val (.long q1), .second, .val (.int p2), .val (.int 10), .val (.ref b328), .val (.int (q0.toInt32)), .val (.int (own_lu q0 (32 : Int32))), .val (.int (q1.toInt32)), .val (.int 2), .val (.int 2), .val (.int 0), .unset, .unset] [(.int (q0.toInt32)), (.int 0)])) rfl (by rw [hml]; rfl) (argsL := [(.int 0), (.int (q0.toInt32))]) (rest := []) (lenOf pd_28II29I rfl) rfl (by show 2 * 0 + _ ≤ _; exact Nat.le_of_eq rfl) (hb hby at_235) (fun _ _ => ⟨rfl, e357, (by decide : 1 + 0 ≤ _), (by decide : 10 + 0 ≤ _)⟩)
    dsimp only [Pt.U, Pt.locs, Pt.cells, Pt.slots] at X359 l359 y359 z359 st359 hQ359
    subst l359 y359 z359
    obtain ⟨rfl, N359q, e359⟩ := hQ359
    have N359 := Fr.app N357 N359q
    obtain ⟨_, _, ⟨T360, L360, k360, n360⟩, -, X360, ⟨Lc360, hQ360, l360, y360, z360⟩, st360⟩ := Jvm.LawKit.callS X359 hx (y := (⟨"com/example/forkline/forkline/bucketing/MurmurHash3Hash32PinLaw", "mixBlock", "(II)I"⟩ : MethodName)) hown (mvT hZ (hw _ (List.mem_of_getElem? (i := 22) rfl))) (mvT hZ (hw _ (List.mem_of_getElem? (i := 23) rfl))) (mvT hZ (hw _ (List.mem_of_getElem? (i := 24) rfl))) (mvT hZ (hw _ (List.mem_of_getElem? (i := 25) rfl))) (by decide) (backOf (W := 0) (rm4 l Z a0 hw [] (own_mb (0 : Int32) (q0.toInt32)) (own_lu q0 (32 : Int32)) h357 n0 Z357) hZ (hw _ (List.mem_of_getElem? (i := 25) rfl)) (hw _ (List.mem_of_getElem? (i := 24) rfl)) (by decide) (by decide)) (g := (mkF m 250 #[.val (.long q0), .second, .val (.long q1), .second, .val (.int p2), .val (.int 10), .val (.ref b328), .val (.int (q0.toInt32)), .val (.int (own_lu q0 (32 : Int32))), .val (.int (q1.toInt32)), .val (.int 2), .val (.int 2), .val (.int (own_mb (0 : Int32) (q0.toInt32))), .unset, .unset] [(.int (own_lu q0 (32 : Int32))), (.int (own_mb (0 : Int32) (q0.toInt32)))])) rfl (by rw [hml]; rfl) (argsL := [(.int (own_mb (0 : Int32) (q0.toInt32))), (.int (own_lu q0 (32 : Int32)))]) (rest := []) (lenOf pd_28II29I rfl) rfl (by show 2 * 0 + _ ≤ _; exact Nat.le_of_eq rfl) (hb hby at_250) (fun _ _ => ⟨rfl, e359, (by decide : 1 + 0 ≤ _), (by decide : 10 + 0 ≤ _)⟩)
    dsimp only [Pt.U, Pt.locs, Pt.cells, Pt.slots] at X360 l360 y360 z360 st360 hQ360
    subst l360 y360 z360
    obtain ⟨rfl, N360q, e360⟩ := hQ360
    have N360 := Fr.app N359 N360q
    obtain ⟨_, _, ⟨T361, L361, k361, n361⟩, -, X361, ⟨Lc361, hQ361, l361, y361, z361⟩, st361⟩ := Jvm.LawKit.callS X360 hx (y := (⟨"com/example/forkline/forkline/bucketing/MurmurHash3", "hash32", "([B)I"⟩ : MethodName)) hown (mvT hZ (hw _ (List.mem_of_getElem? (i := 4) rfl))) (mvT hZ (hw _ (List.mem_of_getElem? (i := 5) rfl))) (mvT hZ (hw _ (List.mem_of_getElem? (i := 6) rfl))) (mvT hZ (hw _ (List.mem_of_getElem? (i := 7) rfl))) (by decide) (backOf (W := 0) (rmH_10 l Z a0 hw [] b328 k328 (own_by (q0.toInt32)) (own_by (own_lu q0 (8 : Int32))) (own_by (own_lu q0 (16 : Int32))) (own_by (own_lu q0 (24 : Int32))) (own_by (own_lu q0 (32 : Int32))) (own_by (own_lu q0 (40 : Int32))) (own_by (own_lu q0 (48 : Int32))) (own_by (own_lu q0 (56 : Int32))) (own_by (q1.toInt32)) (own_by (own_lu q1 (8 : Int32))) h357 n0 Z357 V357) hZ (hw _ (List.mem_of_getElem? (i := 7) rfl)) (hw _ (List.mem_of_getElem? (i := 6) rfl)) (by decide) (by decide)) (g := (mkF m 386 #[.val (.long q0), .second, .val (.long q1), .second, .val (.int p2), .val (.int 10), .val (.ref b328), .val (.int (q0.toInt32)), .val (.int (own_lu q0 (32 : Int32))), .val (.int (q1.toInt32)), .val (.int 2), .val (.int 2), .val (.int (own_fin (((own_mb (own_mb (0 : Int32) (q0.toInt32)) (own_lu q0 (32 : Int32))) ^^^ (own_scr ((q1.toInt32) &&& (65535 : Int32)))) ^^^ (10 : Int32)))), .val (.int (q1.toInt32)), .val (.int (own_scr ((q1.toInt32) &&& (65535 : Int32))))] [(.ref b328)])) rfl (by rw [hml]; rfl) (argsL := [(.ref b328)]) (rest := []) (lenOf pd_285bB29I rfl) rfl (by show 2 * 0 + _ ≤ _; exact Nat.le_of_eq rfl) (hb hby at_386) (fun _ _ => ⟨rfl, e360, (by decide : 1 + 0 ≤ _), (by decide : 10 + 0 ≤ _)⟩)
    dsimp only [Pt.U, Pt.locs, Pt.cells, Pt.slots] at X361 l361 y361 z361 st361 hQ361
    subst l361 y361 z361
    obtain ⟨rfl, N361q, e361⟩ := hQ361
    have N361 := Fr.app N360 N361q
    obtain ⟨fs, hr, hrun, hended, hW, hsame⟩ := X361.leave (v := some (.int 1)) (fun h => by rw [Bd.returns] at h; cases h)
    refine ⟨_, _, pre0 _ ?_, hrun, hended, _, _, rfl, ?_, ⟨_, rfl⟩, hW, hsame.mono (by decide) (by decide)⟩
    · refine G164 _ ?_
      rw [hn]
      refine own_iload X0.here hx (hb hby at_10) rfl ?_
      refine st328 _ ?_
      show Steps p.tables e below (T328.setTop (mkF m 14 #[.val (.long q0), .second, .val (.long q1), .second, .val (.int p2), .val (.int 10), .unset, .unset, .unset, .unset, .unset, .unset, .unset, .unset, .unset] [(.ref b328)])) _
      refine own_astore X328.here hx (hb hby at_14) rfl (l' := #[.val (.long q0), .second, .val (.long q1), .second, .val (.int p2), .val (.int 10), .val (.ref b328), .unset, .unset, .unset, .unset, .unset, .unset, .unset, .unset]) rfl ?_
      refine own_iload X328.here hx (hb hby at_16) rfl ?_
      refine own_ifNo X328.here hx (hb hby at_18) ((if0 _ _).trans (tlt (by decide : (0 : Int32) < (10 : Int32))).2.2.2) ?_
      refine own_aload X328.here hx (hb hby at_21) rfl rfl ?_
      refine own_iconst X328.here hx (0 : Int32) (hb hby at_23) rfl ?_
      refine own_lloadN X328.here hx (hb hby at_24) rfl ?_
      refine own_l2i X328.here hx (hb hby at_25) ?_
      refine own_i2b X328.here hx (hb hby at_26) ?_
      refine st330 _ ?_
      show Steps p.tables e below (T330.setTop (mkF m 28 #[.val (.long q0), .second, .val (.long q1), .second, .val (.int p2), .val (.int 10), .val (.ref b328), .unset, .unset, .unset, .unset, .unset, .unset, .unset, .unset] [])) _
      refine own_iload X330.here hx (hb hby at_28) rfl ?_
      refine own_iconst X330.here hx (1 : Int32) (hb hby at_30) rfl ?_
      refine own_icmpNo X330.here hx (hb hby at_31) (tlt (by decide : (1 : Int32) < (10 : Int32))).2.2.2 ?_
      refine own_aload X330.here hx (hb hby at_34) rfl rfl ?_
      refine own_iconst X330.here hx (1 : Int32) (hb hby at_36) rfl ?_
      refine own_lloadN X330.here hx (hb hby at_37) rfl ?_
      refine own_bipush X330.here hx (8 : Int32) (hb hby at_38) rfl ?_
      refine own_lushr X330.here hx (hb hby at_40) ?_
      refine own_l2i X330.here hx (hb hby at_41) ?_
      show Steps p.tables e below (T330.setTop (mkF m 42 #[.val (.long q0), .second, .val (.long q1), .second, .val (.int p2), .val (.int 10), .val (.ref b328), .unset, .unset, .unset, .unset, .unset, .unset, .unset, .unset] [(.int (own_lu q0 (8 : Int32))), (.int 1), (.ref b328)])) _
      refine own_i2b X330.here hx (hb hby at_42) ?_
      refine st333 _ ?_
      show Steps p.tables e below (T333.setTop (mkF m 44 #[.val (.long q0), .second, .val (.long q1), .second, .val (.int p2), .val (.int 10), .val (.ref b328), .unset, .unset, .unset, .unset, .unset, .unset, .unset, .unset] [])) _
      refine own_iload X333.here hx (hb hby at_44) rfl ?_
      refine own_iconst X333.here hx (2 : Int32) (hb hby at_46) rfl ?_
      refine own_icmpNo X333.here hx (hb hby at_47) (tlt (by decide : (2 : Int32) < (10 : Int32))).2.2.2 ?_
      refine own_aload X333.here hx (hb hby at_50) rfl rfl ?_
      refine own_iconst X333.here hx (2 : Int32) (hb hby at_52) rfl ?_
      refine own_lloadN X333.here hx (hb hby at_53) rfl ?_
      refine own_bipush X333.here hx (16 : Int32) (hb hby at_54) rfl ?_
      refine own_lushr X333.here hx (hb hby at_56) ?_
      refine own_l2i X333.here hx (hb hby at_57) ?_
      show Steps p.tables e below (T333.setTop (mkF m 58 #[.val (.long q0), .second, .val (.long q1), .second, .val (.int p2), .val (.int 10), .val (.ref b328), .unset, .unset, .unset, .unset, .unset, .unset, .unset, .unset] [(.int (own_lu q0 (16 : Int32))), (.int 2), (.ref b328)])) _
      refine own_i2b X333.here hx (hb hby at_58) ?_
      refine st336 _ ?_
      show Steps p.tables e below (T336.setTop (mkF m 60 #[.val (.long q0), .second, .val (.long q1), .second, .val (.int p2), .val (.int 10), .val (.ref b328), .unset, .unset, .unset, .unset, .unset, .unset, .unset, .unset] [])) _
      refine own_iload X336.here hx (hb hby at_60) rfl ?_
      refine own_iconst X336.here hx (3 : Int32) (hb hby at_62) rfl ?_
      refine own_icmpNo X336.here hx (hb hby at_63) (tlt (by decide : (3 : Int32) < (10 : Int32))).2.2.2 ?_
      refine own_aload X336.here hx (hb hby at_66) rfl rfl ?_
      refine own_iconst X336.here hx (3 : Int32) (hb hby at_68) rfl ?_
      refine own_lloadN X336.here hx (hb hby at_69) rfl ?_
      refine own_bipush X336.here hx (24 : Int32) (hb hby at_70) rfl ?_
      refine own_lushr X336.here hx (hb hby at_72) ?_
      refine own_l2i X336.here hx (hb hby at_73) ?_
      show Steps p.tables e below (T336.setTop (mkF m 74 #[.val (.long q0), .second, .val (.long q1), .second, .val (.int p2), .val (.int 10), .val (.ref b328), .unset, .unset, .unset, .unset, .unset, .unset, .unset, .unset] [(.int (own_lu q0 (24 : Int32))), (.int 3), (.ref b328)])) _
      refine own_i2b X336.here hx (hb hby at_74) ?_
      refine st339 _ ?_
      show Steps p.tables e below (T339.setTop (mkF m 76 #[.val (.long q0), .second, .val (.long q1), .second, .val (.int p2), .val (.int 10), .val (.ref b328), .unset, .unset, .unset, .unset, .unset, .unset, .unset, .unset] [])) _
      refine own_iload X339.here hx (hb hby at_76) rfl ?_
      refine own_iconst X339.here hx (4 : Int32) (hb hby at_78) rfl ?_
      refine own_icmpNo X339.here hx (hb hby at_79) (tlt (by decide : (4 : Int32) < (10 : Int32))).2.2.2 ?_
      refine own_aload X339.here hx (hb hby at_82) rfl rfl ?_
      refine own_iconst X339.here hx (4 : Int32) (hb hby at_84) rfl ?_
      refine own_lloadN X339.here hx (hb hby at_85) rfl ?_
      refine own_bipush X339.here hx (32 : Int32) (hb hby at_86) rfl ?_
      refine own_lushr X339.here hx (hb hby at_88) ?_
      refine own_l2i X339.here hx (hb hby at_89) ?_
      show Steps p.tables e below (T339.setTop (mkF m 90 #[.val (.long q0), .second, .val (.long q1), .second, .val (.int p2), .val (.int 10), .val (.ref b328), .unset, .unset, .unset, .unset, .unset, .unset, .unset, .unset] [(.int (own_lu q0 (32 : Int32))), (.int 4), (.ref b328)])) _
      refine own_i2b X339.here hx (hb hby at_90) ?_
      refine st342 _ ?_
      show Steps p.tables e below (T342.setTop (mkF m 92 #[.val (.long q0), .second, .val (.long q1), .second, .val (.int p2), .val (.int 10), .val (.ref b328), .unset, .unset, .unset, .unset, .unset, .unset, .unset, .unset] [])) _
      refine own_iload X342.here hx (hb hby at_92) rfl ?_
      refine own_iconst X342.here hx (5 : Int32) (hb hby at_94) rfl ?_
      refine own_icmpNo X342.here hx (hb hby at_95) (tlt (by decide : (5 : Int32) < (10 : Int32))).2.2.2 ?_
      refine own_aload X342.here hx (hb hby at_98) rfl rfl ?_
      refine own_iconst X342.here hx (5 : Int32) (hb hby at_100) rfl ?_
      refine own_lloadN X342.here hx (hb hby at_101) rfl ?_
      refine own_bipush X342.here hx (40 : Int32) (hb hby at_102) rfl ?_
      refine own_lushr X342.here hx (hb hby at_104) ?_
      refine own_l2i X342.here hx (hb hby at_105) ?_
      show Steps p.tables e below (T342.setTop (mkF m 106 #[.val (.long q0), .second, .val (.long q1), .second, .val (.int p2), .val (.int 10), .val (.ref b328), .unset, .unset, .unset, .unset, .unset, .unset, .unset, .unset] [(.int (own_lu q0 (40 : Int32))), (.int 5), (.ref b328)])) _
      refine own_i2b X342.here hx (hb hby at_106) ?_
      refine st345 _ ?_
      show Steps p.tables e below (T345.setTop (mkF m 108 #[.val (.long q0), .second, .val (.long q1), .second, .val (.int p2), .val (.int 10), .val (.ref b328), .unset, .unset, .unset, .unset, .unset, .unset, .unset, .unset] [])) _
      refine own_iload X345.here hx (hb hby at_108) rfl ?_
      refine own_bipush X345.here hx (6 : Int32) (hb hby at_110) rfl ?_
      refine own_icmpNo X345.here hx (hb hby at_112) (tlt (by decide : (6 : Int32) < (10 : Int32))).2.2.2 ?_
      refine own_aload X345.here hx (hb hby at_115) rfl rfl ?_
      refine own_bipush X345.here hx (6 : Int32) (hb hby at_117) rfl ?_
      refine own_lloadN X345.here hx (hb hby at_119) rfl ?_
      refine own_bipush X345.here hx (48 : Int32) (hb hby at_120) rfl ?_
      refine own_lushr X345.here hx (hb hby at_122) ?_
      refine own_l2i X345.here hx (hb hby at_123) ?_
      show Steps p.tables e below (T345.setTop (mkF m 124 #[.val (.long q0), .second, .val (.long q1), .second, .val (.int p2), .val (.int 10), .val (.ref b328), .unset, .unset, .unset, .unset, .unset, .unset, .unset, .unset] [(.int (own_lu q0 (48 : Int32))), (.int 6), (.ref b328)])) _
      refine own_i2b X345.here hx (hb hby at_124) ?_
      refine st348 _ ?_
      show Steps p.tables e below (T348.setTop (mkF m 126 #[.val (.long q0), .second, .val (.long q1), .second, .val (.int p2), .val (.int 10), .val (.ref b328), .unset, .unset, .unset, .unset, .unset, .unset, .unset, .unset] [])) _
      refine own_iload X348.here hx (hb hby at_126) rfl ?_
      refine own_bipush X348.here hx (7 : Int32) (hb hby at_128) rfl ?_
      refine own_icmpNo X348.here hx (hb hby at_130) (tlt (by decide : (7 : Int32) < (10 : Int32))).2.2.2 ?_
      refine own_aload X348.here hx (hb hby at_133) rfl rfl ?_
      refine own_bipush X348.here hx (7 : Int32) (hb hby at_135) rfl ?_
      refine own_lloadN X348.here hx (hb hby at_137) rfl ?_
      refine own_bipush X348.here hx (56 : Int32) (hb hby at_138) rfl ?_
      refine own_lushr X348.here hx (hb hby at_140) ?_
      refine own_l2i X348.here hx (hb hby at_141) ?_
      show Steps p.tables e below (T348.setTop (mkF m 142 #[.val (.long q0), .second, .val (.long q1), .second, .val (.int p2), .val (.int 10), .val (.ref b328), .unset, .unset, .unset, .unset, .unset, .unset, .unset, .unset] [(.int (own_lu q0 (56 : Int32))), (.int 7), (.ref b328)])) _
      refine own_i2b X348.here hx (hb hby at_142) ?_
      refine st351 _ ?_
      show Steps p.tables e below (T351.setTop (mkF m 144 #[.val (.long q0), .second, .val (.long q1), .second, .val (.int p2), .val (.int 10), .val (.ref b328), .unset, .unset, .unset, .unset, .unset, .unset, .unset, .unset] [])) _
      refine own_iload X351.here hx (hb hby at_144) rfl ?_
      refine own_bipush X351.here hx (8 : Int32) (hb hby at_146) rfl ?_
      refine own_icmpNo X351.here hx (hb hby at_148) (tlt (by decide : (8 : Int32) < (10 : Int32))).2.2.2 ?_
      refine own_aload X351.here hx (hb hby at_151) rfl rfl ?_
      refine own_bipush X351.here hx (8 : Int32) (hb hby at_153) rfl ?_
      refine own_lloadN X351.here hx (hb hby at_155) rfl ?_
      refine own_l2i X351.here hx (hb hby at_156) ?_
      refine own_i2b X351.here hx (hb hby at_157) ?_
      refine st354 _ ?_
      show Steps p.tables e below (T354.setTop (mkF m 159 #[.val (.long q0), .second, .val (.long q1), .second, .val (.int p2), .val (.int 10), .val (.ref b328), .unset, .unset, .unset, .unset, .unset, .unset, .unset, .unset] [])) _
      refine own_iload X354.here hx (hb hby at_159) rfl ?_
      refine own_bipush X354.here hx (9 : Int32) (hb hby at_161) rfl ?_
      refine own_icmpNo X354.here hx (hb hby at_163) (tlt (by decide : (9 : Int32) < (10 : Int32))).2.2.2 ?_
      refine own_aload X354.here hx (hb hby at_166) rfl rfl ?_
      refine own_bipush X354.here hx (9 : Int32) (hb hby at_168) rfl ?_
      refine own_lloadN X354.here hx (hb hby at_170) rfl ?_
      refine own_bipush X354.here hx (8 : Int32) (hb hby at_171) rfl ?_
      refine own_lushr X354.here hx (hb hby at_173) ?_
      refine own_l2i X354.here hx (hb hby at_174) ?_
      show Steps p.tables e below (T354.setTop (mkF m 175 #[.val (.long q0), .second, .val (.long q1), .second, .val (.int p2), .val (.int 10), .val (.ref b328), .unset, .unset, .unset, .unset, .unset, .unset, .unset, .unset] [(.int (own_lu q1 (8 : Int32))), (.int 9), (.ref b328)])) _
      refine own_i2b X354.here hx (hb hby at_175) ?_
      refine st357 _ ?_
      show Steps p.tables e below (T357.setTop (mkF m 177 #[.val (.long q0), .second, .val (.long q1), .second, .val (.int p2), .val (.int 10), .val (.ref b328), .unset, .unset, .unset, .unset, .unset, .unset, .unset, .unset] [])) _
      refine own_iload X357.here hx (hb hby at_177) rfl ?_
      refine own_bipush X357.here hx (10 : Int32) (hb hby at_179) rfl ?_
      refine own_icmpYes X357.here hx 181 195 rfl (hb hby at_181) (flt (by decide : ¬ ((10 : Int32) < (10 : Int32)))).2.2.2 (by decide) (by decide) ?_
      refine own_lloadN X357.here hx (hb hby at_195) rfl ?_
      refine own_l2i X357.here hx (hb hby at_196) ?_
      refine own_istore X357.here hx (hb hby at_197) (l' := #[.val (.long q0), .second, .val (.long q1), .second, .val (.int p2), .val (.int 10), .val (.ref b328), .val (.int (q0.toInt32)), .unset, .unset, .unset, .unset, .unset, .unset, .unset]) rfl ?_
      refine own_lloadN X357.here hx (hb hby at_199) rfl ?_
      refine own_bipush X357.here hx (32 : Int32) (hb hby at_200) rfl ?_
      refine own_lushr X357.here hx (hb hby at_202) ?_
      refine own_l2i X357.here hx (hb hby at_203) ?_
      show Steps p.tables e below (T357.setTop (mkF m 204 #[.val (.long q0), .second, .val (.long q1), .second, .val (.int p2), .val (.int 10), .val (.ref b328), .val (.int (q0.toInt32)), .unset, .unset, .unset, .unset, .unset, .unset, .unset] [(.int (own_lu q0 (32 : Int32)))])) _
      refine own_istore X357.here hx (hb hby at_204) (l' := #[.val (.long q0), .second, .val (.long q1), .second, .val (.int p2), .val (.int 10), .val (.ref b328), .val (.int (q0.toInt32)), .val (.int (own_lu q0 (32 : Int32))), .unset, .unset, .unset, .unset, .unset, .unset]) rfl ?_
      refine own_lloadN X357.here hx (hb hby at_206) rfl ?_
      refine own_l2i X357.here hx (hb hby at_207) ?_
      refine own_istore X357.here hx (hb hby at_208) (l' := #[.val (.long q0), .second, .val (.long q1), .second, .val (.int p2), .val (.int 10), .val (.ref b328), .val (.int (q0.toInt32)), .val (.int (own_lu q0 (32 : Int32))), .val (.int (q1.toInt32)), .unset, .unset, .unset, .unset, .unset]) rfl ?_
      refine own_iload X357.here hx (hb hby at_210) rfl ?_
      refine own_iconst X357.here hx (4 : Int32) (hb hby at_212) rfl ?_
      refine own_idiv X357.here hx (hb hby at_213) (by decide) ?_
      show Steps p.tables e below (T357.setTop (mkF m 214 #[.val (.long q0), .second, .val (.long q1), .second, .val (.int p2), .val (.int 10), .val (.ref b328), .val (.int (q0.toInt32)), .val (.int (own_lu q0 (32 : Int32))), .val (.int (q1.toInt32)), .unset, .unset, .unset, .unset, .unset] [(.int 2)])) _
      refine own_istore X357.here hx (hb hby at_214) (l' := #[.val (.long q0), .second, .val (.long q1), .second, .val (.int p2), .val (.int 10), .val (.ref b328), .val (.int (q0.toInt32)), .val (.int (own_lu q0 (32 : Int32))), .val (.int (q1.toInt32)), .val (.int 2), .unset, .unset, .unset, .unset]) rfl ?_
      refine own_iload X357.here hx (hb hby at_216) rfl ?_
      refine own_iconst X357.here hx (4 : Int32) (hb hby at_218) rfl ?_
      refine own_irem X357.here hx (hb hby at_219) (by decide) ?_
      show Steps p.tables e below (T357.setTop (mkF m 220 #[.val (.long q0), .second, .val (.long q1), .second, .val (.int p2), .val (.int 10), .val (.ref b328), .val (.int (q0.toInt32)), .val (.int (own_lu q0 (32 : Int32))), .val (.int (q1.toInt32)), .val (.int 2), .unset, .unset, .unset, .unset] [(.int 2)])) _
      refine own_istore X357.here hx (hb hby at_220) (l' := #[.val (.long q0), .second, .val (.long q1), .second, .val (.int p2), .val (.int 10), .val (.ref b328), .val (.int (q0.toInt32)), .val (.int (own_lu q0 (32 : Int32))), .val (.int (q1.toInt32)), .val (.int 2), .val (.int 2), .unset, .unset, .unset]) rfl ?_
      refine own_iconst X357.here hx (0 : Int32) (hb hby at_222) rfl ?_
      refine own_istore X357.here hx (hb hby at_223) (l' := #[.val (.long q0), .second, .val (.long q1), .second, .val (.int p2), .val (.int 10), .val (.ref b328), .val (.int (q0.toInt32)), .val (.int (own_lu q0 (32 : Int32))), .val (.int (q1.toInt32)), .val (.int 2), .val (.int 2), .val (.int 0), .unset, .unset]) rfl ?_
      refine own_iload X357.here hx (hb hby at_225) rfl ?_
      refine own_iconst X357.here hx (1 : Int32) (hb hby at_227) rfl ?_
      refine own_icmpNo X357.here hx (hb hby at_228) (flt (by decide : ¬ ((2 : Int32) < (1 : Int32)))).1 ?_
      refine own_iload X357.here hx (hb hby at_231) rfl ?_
      refine own_iload X357.here hx (hb hby at_233) rfl ?_
      refine st359 _ ?_
      show Steps p.tables e below (T359.setTop (mkF m 238 #[.val (.long q0), .second, .val (.long q1), .second, .val (.int p2), .val (.int 10), .val (.ref b328), .val (.int (q0.toInt32)), .val (.int (own_lu q0 (32 : Int32))), .val (.int (q1.toInt32)), .val (.int 2), .val (.int 2), .val (.int 0), .unset, .unset] [(.int (own_mb (0 : Int32) (q0.toInt32)))])) _
      refine own_istore X359.here hx (hb hby at_238) (l' := #[.val (.long q0), .second, .val (.long q1), .second, .val (.int p2), .val (.int 10), .val (.ref b328), .val (.int (q0.toInt32)), .val (.int (own_lu q0 (32 : Int32))), .val (.int (q1.toInt32)), .val (.int 2), .val (.int 2), .val (.int (own_mb (0 : Int32) (q0.toInt32))), .unset, .unset]) rfl ?_
      refine own_iload X359.here hx (hb hby at_240) rfl ?_
      refine own_iconst X359.here hx (2 : Int32) (hb hby at_242) rfl ?_
      refine own_icmpNo X359.here hx (hb hby at_243) (flt (by decide : ¬ ((2 : Int32) < (2 : Int32)))).1 ?_
      refine own_iload X359.here hx (hb hby at_246) rfl ?_
      refine own_iload X359.here hx (hb hby at_248) rfl ?_
      refine st360 _ ?_
      show Steps p.tables e below (T360.setTop (mkF m 253 #[.val (.long q0), .second, .val (.long q1), .second, .val (.int p2), .val (.int 10), .val (.ref b328), .val (.int (q0.toInt32)), .val (.int (own_lu q0 (32 : Int32))), .val (.int (q1.toInt32)), .val (.int 2), .val (.int 2), .val (.int (own_mb (0 : Int32) (q0.toInt32))), .unset, .unset] [(.int (own_mb (own_mb (0 : Int32) (q0.toInt32)) (own_lu q0 (32 : Int32))))])) _
      refine own_istore X360.here hx (hb hby at_253) (l' := #[.val (.long q0), .second, .val (.long q1), .second, .val (.int p2), .val (.int 10), .val (.ref b328), .val (.int (q0.toInt32)), .val (.int (own_lu q0 (32 : Int32))), .val (.int (q1.toInt32)), .val (.int 2), .val (.int 2), .val (.int (own_mb (own_mb (0 : Int32) (q0.toInt32)) (own_lu q0 (32 : Int32)))), .unset, .unset]) rfl ?_
      refine own_iload X360.here hx (hb hby at_255) rfl ?_
      refine own_ifYes X360.here hx 257 265 rfl (hb hby at_257) ((if0 _ _).trans (feq (by decide : ¬ ((2 : Int32) = (0 : Int32)))).2) (by decide) (by decide) ?_
      refine own_iload X360.here hx (hb hby at_265) rfl ?_
      refine own_iconst X360.here hx (1 : Int32) (hb hby at_267) rfl ?_
      refine own_icmpYes X360.here hx 268 276 rfl (hb hby at_268) (feq (by decide : ¬ ((2 : Int32) = (1 : Int32)))).2 (by decide) (by decide) ?_
      refine own_iload X360.here hx (hb hby at_276) rfl ?_
      refine own_istore X360.here hx (hb hby at_278) (l' := #[.val (.long q0), .second, .val (.long q1), .second, .val (.int p2), .val (.int 10), .val (.ref b328), .val (.int (q0.toInt32)), .val (.int (own_lu q0 (32 : Int32))), .val (.int (q1.toInt32)), .val (.int 2), .val (.int 2), .val (.int (own_mb (own_mb (0 : Int32) (q0.toInt32)) (own_lu q0 (32 : Int32)))), .val (.int (q1.toInt32)), .unset]) rfl ?_
      refine own_iload X360.here hx (hb hby at_280) rfl ?_
      refine own_ifNo X360.here hx (hb hby at_282) ((if0 _ _).trans (tlt (by decide : (0 : Int32) < (2 : Int32))).2.2.2) ?_
      refine own_iload X360.here hx (hb hby at_285) rfl ?_
      refine own_iconst X360.here hx (1 : Int32) (hb hby at_287) rfl ?_
      refine own_bipush X360.here hx (8 : Int32) (hb hby at_288) rfl ?_
      refine own_iload X360.here hx (hb hby at_290) rfl ?_
      refine own_imul X360.here hx (hb hby at_292) ?_
      show Steps p.tables e below (T360.setTop (mkF m 293 #[.val (.long q0), .second, .val (.long q1), .second, .val (.int p2), .val (.int 10), .val (.ref b328), .val (.int (q0.toInt32)), .val (.int (own_lu q0 (32 : Int32))), .val (.int (q1.toInt32)), .val (.int 2), .val (.int 2), .val (.int (own_mb (own_mb (0 : Int32) (q0.toInt32)) (own_lu q0 (32 : Int32)))), .val (.int (q1.toInt32)), .unset] [(.int 16), (.int 1), (.int (q1.toInt32))])) _
      refine own_ishl X360.here hx (hb hby at_293) ?_
      show Steps p.tables e below (T360.setTop (mkF m 294 #[.val (.long q0), .second, .val (.long q1), .second, .val (.int p2), .val (.int 10), .val (.ref b328), .val (.int (q0.toInt32)), .val (.int (own_lu q0 (32 : Int32))), .val (.int (q1.toInt32)), .val (.int 2), .val (.int 2), .val (.int (own_mb (own_mb (0 : Int32) (q0.toInt32)) (own_lu q0 (32 : Int32)))), .val (.int (q1.toInt32)), .unset] [(.int 65536), (.int (q1.toInt32))])) _
      refine own_iconst X360.here hx (1 : Int32) (hb hby at_294) rfl ?_
      refine own_isub X360.here hx (hb hby at_295) ?_
      show Steps p.tables e below (T360.setTop (mkF m 296 #[.val (.long q0), .second, .val (.long q1), .second, .val (.int p2), .val (.int 10), .val (.ref b328), .val (.int (q0.toInt32)), .val (.int (own_lu q0 (32 : Int32))), .val (.int (q1.toInt32)), .val (.int 2), .val (.int 2), .val (.int (own_mb (own_mb (0 : Int32) (q0.toInt32)) (own_lu q0 (32 : Int32)))), .val (.int (q1.toInt32)), .unset] [(.int 65535), (.int (q1.toInt32))])) _
      refine own_iand X360.here hx (hb hby at_296) ?_
      show Steps p.tables e below (T360.setTop (mkF m 297 #[.val (.long q0), .second, .val (.long q1), .second, .val (.int p2), .val (.int 10), .val (.ref b328), .val (.int (q0.toInt32)), .val (.int (own_lu q0 (32 : Int32))), .val (.int (q1.toInt32)), .val (.int 2), .val (.int 2), .val (.int (own_mb (own_mb (0 : Int32) (q0.toInt32)) (own_lu q0 (32 : Int32)))), .val (.int (q1.toInt32)), .unset] [(.int ((q1.toInt32) &&& (65535 : Int32)))])) _
      refine own_istore X360.here hx (hb hby at_297) (l' := #[.val (.long q0), .second, .val (.long q1), .second, .val (.int p2), .val (.int 10), .val (.ref b328), .val (.int (q0.toInt32)), .val (.int (own_lu q0 (32 : Int32))), .val (.int (q1.toInt32)), .val (.int 2), .val (.int 2), .val (.int (own_mb (own_mb (0 : Int32) (q0.toInt32)) (own_lu q0 (32 : Int32)))), .val (.int (q1.toInt32)), .val (.int ((q1.toInt32) &&& (65535 : Int32)))]) rfl ?_
      refine own_iload X360.here hx (hb hby at_299) rfl ?_
      refine X360.ldcInt hx hown (mvT hZ (hw _ (List.mem_of_getElem? (i := 26) rfl))) (g := (mkF m 301 #[.val (.long q0), .second, .val (.long q1), .second, .val (.int p2), .val (.int 10), .val (.ref b328), .val (.int (q0.toInt32)), .val (.int (own_lu q0 (32 : Int32))), .val (.int (q1.toInt32)), .val (.int 2), .val (.int 2), .val (.int (own_mb (own_mb (0 : Int32) (q0.toInt32)) (own_lu q0 (32 : Int32)))), .val (.int (q1.toInt32)), .val (.int ((q1.toInt32) &&& (65535 : Int32)))] [(.int ((q1.toInt32) &&& (65535 : Int32)))])) rfl (hb hby at_301) _ ?_
      show Steps p.tables e below (T360.setTop (mkF m 303 #[.val (.long q0), .second, .val (.long q1), .second, .val (.int p2), .val (.int 10), .val (.ref b328), .val (.int (q0.toInt32)), .val (.int (own_lu q0 (32 : Int32))), .val (.int (q1.toInt32)), .val (.int 2), .val (.int 2), .val (.int (own_mb (own_mb (0 : Int32) (q0.toInt32)) (own_lu q0 (32 : Int32)))), .val (.int (q1.toInt32)), .val (.int ((q1.toInt32) &&& (65535 : Int32)))] [(.int (-862048943)), (.int ((q1.toInt32) &&& (65535 : Int32)))])) _
      refine own_imul X360.here hx (hb hby at_303) ?_
      refine own_istore X360.here hx (hb hby at_304) (l' := #[.val (.long q0), .second, .val (.long q1), .second, .val (.int p2), .val (.int 10), .val (.ref b328), .val (.int (q0.toInt32)), .val (.int (own_lu q0 (32 : Int32))), .val (.int (q1.toInt32)), .val (.int 2), .val (.int 2), .val (.int (own_mb (own_mb (0 : Int32) (q0.toInt32)) (own_lu q0 (32 : Int32)))), .val (.int (q1.toInt32)), .val (.int (((q1.toInt32) &&& (65535 : Int32)) * (-862048943 : Int32)))]) rfl ?_
      refine own_iload X360.here hx (hb hby at_306) rfl ?_
      refine own_bipush X360.here hx (15 : Int32) (hb hby at_308) rfl ?_
      refine own_ishl X360.here hx (hb hby at_310) ?_
      refine own_iload X360.here hx (hb hby at_311) rfl ?_
      refine own_bipush X360.here hx (17 : Int32) (hb hby at_313) rfl ?_
      refine own_iushr X360.here hx (hb hby at_315) ?_
      refine own_ior X360.here hx (hb hby at_316) ?_
      show Steps p.tables e below (T360.setTop (mkF m 317 #[.val (.long q0), .second, .val (.long q1), .second, .val (.int p2), .val (.int 10), .val (.ref b328), .val (.int (q0.toInt32)), .val (.int (own_lu q0 (32 : Int32))), .val (.int (q1.toInt32)), .val (.int 2), .val (.int 2), .val (.int (own_mb (own_mb (0 : Int32) (q0.toInt32)) (own_lu q0 (32 : Int32)))), .val (.int (q1.toInt32)), .val (.int (((q1.toInt32) &&& (65535 : Int32)) * (-862048943 : Int32)))] [(.int (own_rotl (((q1.toInt32) &&& (65535 : Int32)) * (-862048943 : Int32)) (15 : Int32)))])) _
      refine own_istore X360.here hx (hb hby at_317) (l' := #[.val (.long q0), .second, .val (.long q1), .second, .val (.int p2), .val (.int 10), .val (.ref b328), .val (.int (q0.toInt32)), .val (.int (own_lu q0 (32 : Int32))), .val (.int (q1.toInt32)), .val (.int 2), .val (.int 2), .val (.int (own_mb (own_mb (0 : Int32) (q0.toInt32)) (own_lu q0 (32 : Int32)))), .val (.int (q1.toInt32)), .val (.int (own_rotl (((q1.toInt32) &&& (65535 : Int32)) * (-862048943 : Int32)) (15 : Int32)))]) rfl ?_
      refine own_iload X360.here hx (hb hby at_319) rfl ?_
      refine X360.ldcInt hx hown (mvT hZ (hw _ (List.mem_of_getElem? (i := 27) rfl))) (g := (mkF m 321 #[.val (.long q0), .second, .val (.long q1), .second, .val (.int p2), .val (.int 10), .val (.ref b328), .val (.int (q0.toInt32)), .val (.int (own_lu q0 (32 : Int32))), .val (.int (q1.toInt32)), .val (.int 2), .val (.int 2), .val (.int (own_mb (own_mb (0 : Int32) (q0.toInt32)) (own_lu q0 (32 : Int32)))), .val (.int (q1.toInt32)), .val (.int (own_rotl (((q1.toInt32) &&& (65535 : Int32)) * (-862048943 : Int32)) (15 : Int32)))] [(.int (own_rotl (((q1.toInt32) &&& (65535 : Int32)) * (-862048943 : Int32)) (15 : Int32)))])) rfl (hb hby at_321) _ ?_
      show Steps p.tables e below (T360.setTop (mkF m 323 #[.val (.long q0), .second, .val (.long q1), .second, .val (.int p2), .val (.int 10), .val (.ref b328), .val (.int (q0.toInt32)), .val (.int (own_lu q0 (32 : Int32))), .val (.int (q1.toInt32)), .val (.int 2), .val (.int 2), .val (.int (own_mb (own_mb (0 : Int32) (q0.toInt32)) (own_lu q0 (32 : Int32)))), .val (.int (q1.toInt32)), .val (.int (own_rotl (((q1.toInt32) &&& (65535 : Int32)) * (-862048943 : Int32)) (15 : Int32)))] [(.int 461845907), (.int (own_rotl (((q1.toInt32) &&& (65535 : Int32)) * (-862048943 : Int32)) (15 : Int32)))])) _
      refine own_imul X360.here hx (hb hby at_323) ?_
      show Steps p.tables e below (T360.setTop (mkF m 324 #[.val (.long q0), .second, .val (.long q1), .second, .val (.int p2), .val (.int 10), .val (.ref b328), .val (.int (q0.toInt32)), .val (.int (own_lu q0 (32 : Int32))), .val (.int (q1.toInt32)), .val (.int 2), .val (.int 2), .val (.int (own_mb (own_mb (0 : Int32) (q0.toInt32)) (own_lu q0 (32 : Int32)))), .val (.int (q1.toInt32)), .val (.int (own_rotl (((q1.toInt32) &&& (65535 : Int32)) * (-862048943 : Int32)) (15 : Int32)))] [(.int (own_scr ((q1.toInt32) &&& (65535 : Int32))))])) _
      refine own_istore X360.here hx (hb hby at_324) (l' := #[.val (.long q0), .second, .val (.long q1), .second, .val (.int p2), .val (.int 10), .val (.ref b328), .val (.int (q0.toInt32)), .val (.int (own_lu q0 (32 : Int32))), .val (.int (q1.toInt32)), .val (.int 2), .val (.int 2), .val (.int (own_mb (own_mb (0 : Int32) (q0.toInt32)) (own_lu q0 (32 : Int32)))), .val (.int (q1.toInt32)), .val (.int (own_scr ((q1.toInt32) &&& (65535 : Int32))))]) rfl ?_
      refine own_iload X360.here hx (hb hby at_326) rfl ?_
      refine own_iload X360.here hx (hb hby at_328) rfl ?_
      refine own_ixor X360.here hx (hb hby at_330) ?_
      refine own_istore X360.here hx (hb hby at_331) (l' := #[.val (.long q0), .second, .val (.long q1), .second, .val (.int p2), .val (.int 10), .val (.ref b328), .val (.int (q0.toInt32)), .val (.int (own_lu q0 (32 : Int32))), .val (.int (q1.toInt32)), .val (.int 2), .val (.int 2), .val (.int ((own_mb (own_mb (0 : Int32) (q0.toInt32)) (own_lu q0 (32 : Int32))) ^^^ (own_scr ((q1.toInt32) &&& (65535 : Int32))))), .val (.int (q1.toInt32)), .val (.int (own_scr ((q1.toInt32) &&& (65535 : Int32))))]) rfl ?_
      refine own_iload X360.here hx (hb hby at_333) rfl ?_
      refine own_iload X360.here hx (hb hby at_335) rfl ?_
      refine own_ixor X360.here hx (hb hby at_337) ?_
      refine own_istore X360.here hx (hb hby at_338) (l' := #[.val (.long q0), .second, .val (.long q1), .second, .val (.int p2), .val (.int 10), .val (.ref b328), .val (.int (q0.toInt32)), .val (.int (own_lu q0 (32 : Int32))), .val (.int (q1.toInt32)), .val (.int 2), .val (.int 2), .val (.int (((own_mb (own_mb (0 : Int32) (q0.toInt32)) (own_lu q0 (32 : Int32))) ^^^ (own_scr ((q1.toInt32) &&& (65535 : Int32)))) ^^^ (10 : Int32))), .val (.int (q1.toInt32)), .val (.int (own_scr ((q1.toInt32) &&& (65535 : Int32))))]) rfl ?_
      refine own_iload X360.here hx (hb hby at_340) rfl ?_
      refine own_iload X360.here hx (hb hby at_342) rfl ?_
      refine own_bipush X360.here hx (16 : Int32) (hb hby at_344) rfl ?_
      refine own_iushr X360.here hx (hb hby at_346) ?_
      refine own_ixor X360.here hx (hb hby at_347) ?_
      show Steps p.tables e below (T360.setTop (mkF m 348 #[.val (.long q0), .second, .val (.long q1), .second, .val (.int p2), .val (.int 10), .val (.ref b328), .val (.int (q0.toInt32)), .val (.int (own_lu q0 (32 : Int32))), .val (.int (q1.toInt32)), .val (.int 2), .val (.int 2), .val (.int (((own_mb (own_mb (0 : Int32) (q0.toInt32)) (own_lu q0 (32 : Int32))) ^^^ (own_scr ((q1.toInt32) &&& (65535 : Int32)))) ^^^ (10 : Int32))), .val (.int (q1.toInt32)), .val (.int (own_scr ((q1.toInt32) &&& (65535 : Int32))))] [(.int (own_x16 (((own_mb (own_mb (0 : Int32) (q0.toInt32)) (own_lu q0 (32 : Int32))) ^^^ (own_scr ((q1.toInt32) &&& (65535 : Int32)))) ^^^ (10 : Int32))))])) _
      refine own_istore X360.here hx (hb hby at_348) (l' := #[.val (.long q0), .second, .val (.long q1), .second, .val (.int p2), .val (.int 10), .val (.ref b328), .val (.int (q0.toInt32)), .val (.int (own_lu q0 (32 : Int32))), .val (.int (q1.toInt32)), .val (.int 2), .val (.int 2), .val (.int (own_x16 (((own_mb (own_mb (0 : Int32) (q0.toInt32)) (own_lu q0 (32 : Int32))) ^^^ (own_scr ((q1.toInt32) &&& (65535 : Int32)))) ^^^ (10 : Int32)))), .val (.int (q1.toInt32)), .val (.int (own_scr ((q1.toInt32) &&& (65535 : Int32))))]) rfl ?_
      refine own_iload X360.here hx (hb hby at_350) rfl ?_
      refine X360.ldcInt hx hown (mvT hZ (hw _ (List.mem_of_getElem? (i := 2) rfl))) (g := (mkF m 352 #[.val (.long q0), .second, .val (.long q1), .second, .val (.int p2), .val (.int 10), .val (.ref b328), .val (.int (q0.toInt32)), .val (.int (own_lu q0 (32 : Int32))), .val (.int (q1.toInt32)), .val (.int 2), .val (.int 2), .val (.int (own_x16 (((own_mb (own_mb (0 : Int32) (q0.toInt32)) (own_lu q0 (32 : Int32))) ^^^ (own_scr ((q1.toInt32) &&& (65535 : Int32)))) ^^^ (10 : Int32)))), .val (.int (q1.toInt32)), .val (.int (own_scr ((q1.toInt32) &&& (65535 : Int32))))] [(.int (own_x16 (((own_mb (own_mb (0 : Int32) (q0.toInt32)) (own_lu q0 (32 : Int32))) ^^^ (own_scr ((q1.toInt32) &&& (65535 : Int32)))) ^^^ (10 : Int32))))])) rfl (hb hby at_352) _ ?_
      show Steps p.tables e below (T360.setTop (mkF m 354 #[.val (.long q0), .second, .val (.long q1), .second, .val (.int p2), .val (.int 10), .val (.ref b328), .val (.int (q0.toInt32)), .val (.int (own_lu q0 (32 : Int32))), .val (.int (q1.toInt32)), .val (.int 2), .val (.int 2), .val (.int (own_x16 (((own_mb (own_mb (0 : Int32) (q0.toInt32)) (own_lu q0 (32 : Int32))) ^^^ (own_scr ((q1.toInt32) &&& (65535 : Int32)))) ^^^ (10 : Int32)))), .val (.int (q1.toInt32)), .val (.int (own_scr ((q1.toInt32) &&& (65535 : Int32))))] [(.int (-2048144789)), (.int (own_x16 (((own_mb (own_mb (0 : Int32) (q0.toInt32)) (own_lu q0 (32 : Int32))) ^^^ (own_scr ((q1.toInt32) &&& (65535 : Int32)))) ^^^ (10 : Int32))))])) _
      refine own_imul X360.here hx (hb hby at_354) ?_
      refine own_istore X360.here hx (hb hby at_355) (l' := #[.val (.long q0), .second, .val (.long q1), .second, .val (.int p2), .val (.int 10), .val (.ref b328), .val (.int (q0.toInt32)), .val (.int (own_lu q0 (32 : Int32))), .val (.int (q1.toInt32)), .val (.int 2), .val (.int 2), .val (.int ((own_x16 (((own_mb (own_mb (0 : Int32) (q0.toInt32)) (own_lu q0 (32 : Int32))) ^^^ (own_scr ((q1.toInt32) &&& (65535 : Int32)))) ^^^ (10 : Int32))) * (-2048144789 : Int32))), .val (.int (q1.toInt32)), .val (.int (own_scr ((q1.toInt32) &&& (65535 : Int32))))]) rfl ?_
      refine own_iload X360.here hx (hb hby at_357) rfl ?_
      refine own_iload X360.here hx (hb hby at_359) rfl ?_
      refine own_bipush X360.here hx (13 : Int32) (hb hby at_361) rfl ?_
      refine own_iushr X360.here hx (hb hby at_363) ?_
      refine own_ixor X360.here hx (hb hby at_364) ?_
      show Steps p.tables e below (T360.setTop (mkF m 365 #[.val (.long q0), .second, .val (.long q1), .second, .val (.int p2), .val (.int 10), .val (.ref b328), .val (.int (q0.toInt32)), .val (.int (own_lu q0 (32 : Int32))), .val (.int (q1.toInt32)), .val (.int 2), .val (.int 2), .val (.int ((own_x16 (((own_mb (own_mb (0 : Int32) (q0.toInt32)) (own_lu q0 (32 : Int32))) ^^^ (own_scr ((q1.toInt32) &&& (65535 : Int32)))) ^^^ (10 : Int32))) * (-2048144789 : Int32))), .val (.int (q1.toInt32)), .val (.int (own_scr ((q1.toInt32) &&& (65535 : Int32))))] [(.int (own_x13 ((own_x16 (((own_mb (own_mb (0 : Int32) (q0.toInt32)) (own_lu q0 (32 : Int32))) ^^^ (own_scr ((q1.toInt32) &&& (65535 : Int32)))) ^^^ (10 : Int32))) * (-2048144789 : Int32))))])) _
      refine own_istore X360.here hx (hb hby at_365) (l' := #[.val (.long q0), .second, .val (.long q1), .second, .val (.int p2), .val (.int 10), .val (.ref b328), .val (.int (q0.toInt32)), .val (.int (own_lu q0 (32 : Int32))), .val (.int (q1.toInt32)), .val (.int 2), .val (.int 2), .val (.int (own_x13 ((own_x16 (((own_mb (own_mb (0 : Int32) (q0.toInt32)) (own_lu q0 (32 : Int32))) ^^^ (own_scr ((q1.toInt32) &&& (65535 : Int32)))) ^^^ (10 : Int32))) * (-2048144789 : Int32)))), .val (.int (q1.toInt32)), .val (.int (own_scr ((q1.toInt32) &&& (65535 : Int32))))]) rfl ?_
      refine own_iload X360.here hx (hb hby at_367) rfl ?_
      refine X360.ldcInt hx hown (mvT hZ (hw _ (List.mem_of_getElem? (i := 3) rfl))) (g := (mkF m 369 #[.val (.long q0), .second, .val (.long q1), .second, .val (.int p2), .val (.int 10), .val (.ref b328), .val (.int (q0.toInt32)), .val (.int (own_lu q0 (32 : Int32))), .val (.int (q1.toInt32)), .val (.int 2), .val (.int 2), .val (.int (own_x13 ((own_x16 (((own_mb (own_mb (0 : Int32) (q0.toInt32)) (own_lu q0 (32 : Int32))) ^^^ (own_scr ((q1.toInt32) &&& (65535 : Int32)))) ^^^ (10 : Int32))) * (-2048144789 : Int32)))), .val (.int (q1.toInt32)), .val (.int (own_scr ((q1.toInt32) &&& (65535 : Int32))))] [(.int (own_x13 ((own_x16 (((own_mb (own_mb (0 : Int32) (q0.toInt32)) (own_lu q0 (32 : Int32))) ^^^ (own_scr ((q1.toInt32) &&& (65535 : Int32)))) ^^^ (10 : Int32))) * (-2048144789 : Int32))))])) rfl (hb hby at_369) _ ?_
      show Steps p.tables e below (T360.setTop (mkF m 371 #[.val (.long q0), .second, .val (.long q1), .second, .val (.int p2), .val (.int 10), .val (.ref b328), .val (.int (q0.toInt32)), .val (.int (own_lu q0 (32 : Int32))), .val (.int (q1.toInt32)), .val (.int 2), .val (.int 2), .val (.int (own_x13 ((own_x16 (((own_mb (own_mb (0 : Int32) (q0.toInt32)) (own_lu q0 (32 : Int32))) ^^^ (own_scr ((q1.toInt32) &&& (65535 : Int32)))) ^^^ (10 : Int32))) * (-2048144789 : Int32)))), .val (.int (q1.toInt32)), .val (.int (own_scr ((q1.toInt32) &&& (65535 : Int32))))] [(.int (-1028477387)), (.int (own_x13 ((own_x16 (((own_mb (own_mb (0 : Int32) (q0.toInt32)) (own_lu q0 (32 : Int32))) ^^^ (own_scr ((q1.toInt32) &&& (65535 : Int32)))) ^^^ (10 : Int32))) * (-2048144789 : Int32))))])) _
      refine own_imul X360.here hx (hb hby at_371) ?_
      refine own_istore X360.here hx (hb hby at_372) (l' := #[.val (.long q0), .second, .val (.long q1), .second, .val (.int p2), .val (.int 10), .val (.ref b328), .val (.int (q0.toInt32)), .val (.int (own_lu q0 (32 : Int32))), .val (.int (q1.toInt32)), .val (.int 2), .val (.int 2), .val (.int ((own_x13 ((own_x16 (((own_mb (own_mb (0 : Int32) (q0.toInt32)) (own_lu q0 (32 : Int32))) ^^^ (own_scr ((q1.toInt32) &&& (65535 : Int32)))) ^^^ (10 : Int32))) * (-2048144789 : Int32))) * (-1028477387 : Int32))), .val (.int (q1.toInt32)), .val (.int (own_scr ((q1.toInt32) &&& (65535 : Int32))))]) rfl ?_
      refine own_iload X360.here hx (hb hby at_374) rfl ?_
      refine own_iload X360.here hx (hb hby at_376) rfl ?_
      refine own_bipush X360.here hx (16 : Int32) (hb hby at_378) rfl ?_
      refine own_iushr X360.here hx (hb hby at_380) ?_
      refine own_ixor X360.here hx (hb hby at_381) ?_
      show Steps p.tables e below (T360.setTop (mkF m 382 #[.val (.long q0), .second, .val (.long q1), .second, .val (.int p2), .val (.int 10), .val (.ref b328), .val (.int (q0.toInt32)), .val (.int (own_lu q0 (32 : Int32))), .val (.int (q1.toInt32)), .val (.int 2), .val (.int 2), .val (.int ((own_x13 ((own_x16 (((own_mb (own_mb (0 : Int32) (q0.toInt32)) (own_lu q0 (32 : Int32))) ^^^ (own_scr ((q1.toInt32) &&& (65535 : Int32)))) ^^^ (10 : Int32))) * (-2048144789 : Int32))) * (-1028477387 : Int32))), .val (.int (q1.toInt32)), .val (.int (own_scr ((q1.toInt32) &&& (65535 : Int32))))] [(.int (own_fin (((own_mb (own_mb (0 : Int32) (q0.toInt32)) (own_lu q0 (32 : Int32))) ^^^ (own_scr ((q1.toInt32) &&& (65535 : Int32)))) ^^^ (10 : Int32))))])) _
      refine own_istore X360.here hx (hb hby at_382) (l' := #[.val (.long q0), .second, .val (.long q1), .second, .val (.int p2), .val (.int 10), .val (.ref b328), .val (.int (q0.toInt32)), .val (.int (own_lu q0 (32 : Int32))), .val (.int (q1.toInt32)), .val (.int 2), .val (.int 2), .val (.int (own_fin (((own_mb (own_mb (0 : Int32) (q0.toInt32)) (own_lu q0 (32 : Int32))) ^^^ (own_scr ((q1.toInt32) &&& (65535 : Int32)))) ^^^ (10 : Int32)))), .val (.int (q1.toInt32)), .val (.int (own_scr ((q1.toInt32) &&& (65535 : Int32))))]) rfl ?_
      refine own_aload X360.here hx (hb hby at_384) rfl rfl ?_
      refine st361 _ ?_
      show Steps p.tables e below (T361.setTop (mkF m 389 #[.val (.long q0), .second, .val (.long q1), .second, .val (.int p2), .val (.int 10), .val (.ref b328), .val (.int (q0.toInt32)), .val (.int (own_lu q0 (32 : Int32))), .val (.int (q1.toInt32)), .val (.int 2), .val (.int 2), .val (.int (own_fin (((own_mb (own_mb (0 : Int32) (q0.toInt32)) (own_lu q0 (32 : Int32))) ^^^ (own_scr ((q1.toInt32) &&& (65535 : Int32)))) ^^^ (10 : Int32)))), .val (.int (q1.toInt32)), .val (.int (own_scr ((q1.toInt32) &&& (65535 : Int32))))] [(.int (own_fin (((own_mb (own_mb (0 : Int32) (own_blk (own_by (q0.toInt32)) (own_by (own_lu q0 (8 : Int32))) (own_by (own_lu q0 (16 : Int32))) (own_by (own_lu q0 (24 : Int32))))) (own_blk (own_by (own_lu q0 (32 : Int32))) (own_by (own_lu q0 (40 : Int32))) (own_by (own_lu q0 (48 : Int32))) (own_by (own_lu q0 (56 : Int32))))) ^^^ (own_scr (own_t2 (own_by (q1.toInt32)) (own_by (own_lu q1 (8 : Int32)))))) ^^^ (10 : Int32))))])) _
      refine own_iload X361.here hx (hb hby at_389) rfl ?_
      refine own_icmpNo X361.here hx (hb hby at_391) (teq (by first | decide +kernel | simp only [own_blk0, own_blk1, own_t1e, own_t20, own_t21, own_t30, own_t31, own_scr0, Int32.xor_zero] : (own_fin (((own_mb (own_mb (0 : Int32) (own_blk (own_by (q0.toInt32)) (own_by (own_lu q0 (8 : Int32))) (own_by (own_lu q0 (16 : Int32))) (own_by (own_lu q0 (24 : Int32))))) (own_blk (own_by (own_lu q0 (32 : Int32))) (own_by (own_lu q0 (40 : Int32))) (own_by (own_lu q0 (48 : Int32))) (own_by (own_lu q0 (56 : Int32))))) ^^^ (own_scr (own_t2 (own_by (q1.toInt32)) (own_by (own_lu q1 (8 : Int32)))))) ^^^ (10 : Int32))) = (own_fin (((own_mb (own_mb (0 : Int32) (q0.toInt32)) (own_lu q0 (32 : Int32))) ^^^ (own_scr ((q1.toInt32) &&& (65535 : Int32)))) ^^^ (10 : Int32))))).2 ?_
      refine own_iconst X361.here hx (1 : Int32) (hb hby at_394) rfl ?_
      refine own_goto X361.here hx 395 399 rfl (hb hby at_395) (by decide) (by decide) ?_
      exact retN X361 hx (t := .boolean) Bd.returns (by simp) (hb hby at_399) hr
    · show Q0 Z q0 q1 p2 h0 n0 _ T361.heap _
      rw [e361]
      exact ⟨rfl, N361⟩
  · obtain ⟨T362, h362, k362, X362, e362, E362, A362, st362⟩ := newP X0 hx hZ (hw _ (List.mem_of_getElem? (i := 1) rfl)) e0 (g := (mkF m 12 #[.val (.long q0), .second, .val (.long q1), .second, .val (.int p2), .val (.int 11), .unset, .unset, .unset, .unset, .unset, .unset, .unset, .unset, .unset] [(.int 11)])) rfl (hb hby at_12) rfl (by decide) (cap := 11) (by decide) (by decide) (by decide) (by decide)
    obtain ⟨b362, g362⟩ : ∃ z, z = h0.size := ⟨_, rfl⟩
    rw [← g362] at A362 st362
    have E362' := E362
    have gg362 : n0 ≤ b362 := Nat.le_trans Z0 (Nat.le_of_eq g362.symm)
    have Z362 : n0 ≤ h362.size := Nat.le_trans Z0 E362.1
    have V362 : Arv Z h362 b362 k362 .byte (11 : Int32) [(.int 0), (.int 0), (.int 0), (.int 0), (.int 0), (.int 0), (.int 0), (.int 0), (.int 0), (.int 0), (.int 0)] (.int 0) := (Arv.new A362 (by decide)).pad (pad_rep [] (.int 0) 11)
    obtain ⟨cl363, Ar363, q363, S363, M363, H363, J363⟩ := id V362
    have hin363 : ¬ ((0 : Int32) < 0 ∨ cl363.slots.size ≤ ((0 : Int32)).toNatClampNeg) := inb_of S363 ⟨by decide, by decide⟩
    obtain ⟨T364, h364, X364, e364, W364, st364⟩ := stB X362 hx hZ e362 Ar363 (j := (0 : Int32)) hin363 (g := (mkF m 27 #[.val (.long q0), .second, .val (.long q1), .second, .val (.int p2), .val (.int 11), .val (.ref b362), .unset, .unset, .unset, .unset, .unset, .unset, .unset, .unset] [(.int ((q0.toInt32).toInt8.toInt32)), (.int 0), (.ref b362)])) rfl rfl (hb hby at_27)
    have V364 : Arv Z h364 b362 k362 .byte (11 : Int32) [(.int (own_by (q0.toInt32))), (.int 0), (.int 0), (.int 0), (.int 0), (.int 0), (.int 0), (.int 0), (.int 0), (.int 0), (.int 0)] (.int 0) := Arv.set Ar363 q363 S363 M363 H363 J363 (fits_nar_byte _) W364 0 rfl (Nat.le_of_ble_eq_true rfl)
    have N364 := Fr.snoc X364 N0 gg362
    have Z364 : n0 ≤ h364.size := Nat.le_trans Z362 (Keep.of_wr W364).1
    obtain ⟨cl366, Ar366, q366, S366, M366, H366, J366⟩ := id V364
    have hin366 : ¬ ((1 : Int32) < 0 ∨ cl366.slots.size ≤ ((1 : Int32)).toNatClampNeg) := inb_of S366 ⟨by decide, by decide⟩
    obtain ⟨T367, h367, X367, e367, W367, st367⟩ := stB X364 hx hZ e364 Ar366 (j := (1 : Int32)) hin366 (g := (mkF m 43 #[.val (.long q0), .second, .val (.long q1), .second, .val (.int p2), .val (.int 11), .val (.ref b362), .unset, .unset, .unset, .unset, .unset, .unset, .unset, .unset] [(.int ((own_lu q0 (8 : Int32)).toInt8.toInt32)), (.int 1), (.ref b362)])) rfl rfl (hb hby at_43)
    have V367 : Arv Z h367 b362 k362 .byte (11 : Int32) [(.int (own_by (q0.toInt32))), (.int (own_by (own_lu q0 (8 : Int32)))), (.int 0), (.int 0), (.int 0), (.int 0), (.int 0), (.int 0), (.int 0), (.int 0), (.int 0)] (.int 0) := Arv.set Ar366 q366 S366 M366 H366 J366 (fits_nar_byte _) W367 1 rfl (Nat.le_of_ble_eq_true rfl)
    have N367 := Fr.snoc X367 N364 gg362
    have Z367 : n0 ≤ h367.size := Nat.le_trans Z364 (Keep.of_wr W367).1
    obtain ⟨cl369, Ar369, q369, S369, M369, H369, J369⟩ := id V367
    have hin369 : ¬ ((2 : Int32) < 0 ∨ cl369.slots.size ≤ ((2 : Int32)).toNatClampNeg) := inb_of S369 ⟨by decide, by decide⟩
    obtain ⟨T370, h370, X370, e370, W370, st370⟩ := stB X367 hx hZ e367 Ar369 (j := (2 : Int32)) hin369 (g := (mkF m 59 #[.val (.long q0), .second, .val (.long q1), .second, .val (.int p2), .val (.int 11), .val (.ref b362), .unset, .unset, .unset, .unset, .unset, .unset, .unset, .unset] [(.int ((own_lu q0 (16 : Int32)).toInt8.toInt32)), (.int 2), (.ref b362)])) rfl rfl (hb hby at_59)
    have V370 : Arv Z h370 b362 k362 .byte (11 : Int32) [(.int (own_by (q0.toInt32))), (.int (own_by (own_lu q0 (8 : Int32)))), (.int (own_by (own_lu q0 (16 : Int32)))), (.int 0), (.int 0), (.int 0), (.int 0), (.int 0), (.int 0), (.int 0), (.int 0)] (.int 0) := Arv.set Ar369 q369 S369 M369 H369 J369 (fits_nar_byte _) W370 2 rfl (Nat.le_of_ble_eq_true rfl)
    have N370 := Fr.snoc X370 N367 gg362
    have Z370 : n0 ≤ h370.size := Nat.le_trans Z367 (Keep.of_wr W370).1
    obtain ⟨cl372, Ar372, q372, S372, M372, H372, J372⟩ := id V370
    have hin372 : ¬ ((3 : Int32) < 0 ∨ cl372.slots.size ≤ ((3 : Int32)).toNatClampNeg) := inb_of S372 ⟨by decide, by decide⟩
    obtain ⟨T373, h373, X373, e373, W373, st373⟩ := stB X370 hx hZ e370 Ar372 (j := (3 : Int32)) hin372 (g := (mkF m 75 #[.val (.long q0), .second, .val (.long q1), .second, .val (.int p2), .val (.int 11), .val (.ref b362), .unset, .unset, .unset, .unset, .unset, .unset, .unset, .unset] [(.int ((own_lu q0 (24 : Int32)).toInt8.toInt32)), (.int 3), (.ref b362)])) rfl rfl (hb hby at_75)
    have V373 : Arv Z h373 b362 k362 .byte (11 : Int32) [(.int (own_by (q0.toInt32))), (.int (own_by (own_lu q0 (8 : Int32)))), (.int (own_by (own_lu q0 (16 : Int32)))), (.int (own_by (own_lu q0 (24 : Int32)))), (.int 0), (.int 0), (.int 0), (.int 0), (.int 0), (.int 0), (.int 0)] (.int 0) := Arv.set Ar372 q372 S372 M372 H372 J372 (fits_nar_byte _) W373 3 rfl (Nat.le_of_ble_eq_true rfl)
    have N373 := Fr.snoc X373 N370 gg362
    have Z373 : n0 ≤ h373.size := Nat.le_trans Z370 (Keep.of_wr W373).1
    obtain ⟨cl375, Ar375, q375, S375, M375, H375, J375⟩ := id V373
    have hin375 : ¬ ((4 : Int32) < 0 ∨ cl375.slots.size ≤ ((4 : Int32)).toNatClampNeg) := inb_of S375 ⟨by decide, by decide⟩
    obtain ⟨T376, h376, X376, e376, W376, st376⟩ := stB X373 hx hZ e373 Ar375 (j := (4 : Int32)) hin375 (g := (mkF m 91 #[.val (.long q0), .second, .val (.long q1), .second, .val (.int p2), .val (.int 11), .val (.ref b362), .unset, .unset, .unset, .unset, .unset, .unset, .unset, .unset] [(.int ((own_lu q0 (32 : Int32)).toInt8.toInt32)), (.int 4), (.ref b362)])) rfl rfl (hb hby at_91)
    have V376 : Arv Z h376 b362 k362 .byte (11 : Int32) [(.int (own_by (q0.toInt32))), (.int (own_by (own_lu q0 (8 : Int32)))), (.int (own_by (own_lu q0 (16 : Int32)))), (.int (own_by (own_lu q0 (24 : Int32)))), (.int (own_by (own_lu q0 (32 : Int32)))), (.int 0), (.int 0), (.int 0), (.int 0), (.int 0), (.int 0)] (.int 0) := Arv.set Ar375 q375 S375 M375 H375 J375 (fits_nar_byte _) W376 4 rfl (Nat.le_of_ble_eq_true rfl)
    have N376 := Fr.snoc X376 N373 gg362
    have Z376 : n0 ≤ h376.size := Nat.le_trans Z373 (Keep.of_wr W376).1
    obtain ⟨cl378, Ar378, q378, S378, M378, H378, J378⟩ := id V376
    have hin378 : ¬ ((5 : Int32) < 0 ∨ cl378.slots.size ≤ ((5 : Int32)).toNatClampNeg) := inb_of S378 ⟨by decide, by decide⟩
    obtain ⟨T379, h379, X379, e379, W379, st379⟩ := stB X376 hx hZ e376 Ar378 (j := (5 : Int32)) hin378 (g := (mkF m 107 #[.val (.long q0), .second, .val (.long q1), .second, .val (.int p2), .val (.int 11), .val (.ref b362), .unset, .unset, .unset, .unset, .unset, .unset, .unset, .unset] [(.int ((own_lu q0 (40 : Int32)).toInt8.toInt32)), (.int 5), (.ref b362)])) rfl rfl (hb hby at_107)
    have V379 : Arv Z h379 b362 k362 .byte (11 : Int32) [(.int (own_by (q0.toInt32))), (.int (own_by (own_lu q0 (8 : Int32)))), (.int (own_by (own_lu q0 (16 : Int32)))), (.int (own_by (own_lu q0 (24 : Int32)))), (.int (own_by (own_lu q0 (32 : Int32)))), (.int (own_by (own_lu q0 (40 : Int32)))), (.int 0), (.int 0), (.int 0), (.int 0), (.int 0)] (.int 0) := Arv.set Ar378 q378 S378 M378 H378 J378 (fits_nar_byte _) W379 5 rfl (Nat.le_of_ble_eq_true rfl)
    have N379 := Fr.snoc X379 N376 gg362
    have Z379 : n0 ≤ h379.size := Nat.le_trans Z376 (Keep.of_wr W379).1
    obtain ⟨cl381, Ar381, q381, S381, M381, H381, J381⟩ := id V379
    have hin381 : ¬ ((6 : Int32) < 0 ∨ cl381.slots.size ≤ ((6 : Int32)).toNatClampNeg) := inb_of S381 ⟨by decide, by decide⟩
    obtain ⟨T382, h382, X382, e382, W382, st382⟩ := stB X379 hx hZ e379 Ar381 (j := (6 : Int32)) hin381 (g := (mkF m 125 #[.val (.long q0), .second, .val (.long q1), .second, .val (.int p2), .val (.int 11), .val (.ref b362), .unset, .unset, .unset, .unset, .unset, .unset, .unset, .unset] [(.int ((own_lu q0 (48 : Int32)).toInt8.toInt32)), (.int 6), (.ref b362)])) rfl rfl (hb hby at_125)
    have V382 : Arv Z h382 b362 k362 .byte (11 : Int32) [(.int (own_by (q0.toInt32))), (.int (own_by (own_lu q0 (8 : Int32)))), (.int (own_by (own_lu q0 (16 : Int32)))), (.int (own_by (own_lu q0 (24 : Int32)))), (.int (own_by (own_lu q0 (32 : Int32)))), (.int (own_by (own_lu q0 (40 : Int32)))), (.int (own_by (own_lu q0 (48 : Int32)))), (.int 0), (.int 0), (.int 0), (.int 0)] (.int 0) := Arv.set Ar381 q381 S381 M381 H381 J381 (fits_nar_byte _) W382 6 rfl (Nat.le_of_ble_eq_true rfl)
    have N382 := Fr.snoc X382 N379 gg362
    have Z382 : n0 ≤ h382.size := Nat.le_trans Z379 (Keep.of_wr W382).1
    obtain ⟨cl384, Ar384, q384, S384, M384, H384, J384⟩ := id V382
    have hin384 : ¬ ((7 : Int32) < 0 ∨ cl384.slots.size ≤ ((7 : Int32)).toNatClampNeg) := inb_of S384 ⟨by decide, by decide⟩
    obtain ⟨T385, h385, X385, e385, W385, st385⟩ := stB X382 hx hZ e382 Ar384 (j := (7 : Int32)) hin384 (g := (mkF m 143 #[.val (.long q0), .second, .val (.long q1), .second, .val (.int p2), .val (.int 11), .val (.ref b362), .unset, .unset, .unset, .unset, .unset, .unset, .unset, .unset] [(.int ((own_lu q0 (56 : Int32)).toInt8.toInt32)), (.int 7), (.ref b362)])) rfl rfl (hb hby at_143)
    have V385 : Arv Z h385 b362 k362 .byte (11 : Int32) [(.int (own_by (q0.toInt32))), (.int (own_by (own_lu q0 (8 : Int32)))), (.int (own_by (own_lu q0 (16 : Int32)))), (.int (own_by (own_lu q0 (24 : Int32)))), (.int (own_by (own_lu q0 (32 : Int32)))), (.int (own_by (own_lu q0 (40 : Int32)))), (.int (own_by (own_lu q0 (48 : Int32)))), (.int (own_by (own_lu q0 (56 : Int32)))), (.int 0), (.int 0), (.int 0)] (.int 0) := Arv.set Ar384 q384 S384 M384 H384 J384 (fits_nar_byte _) W385 7 rfl (Nat.le_of_ble_eq_true rfl)
    have N385 := Fr.snoc X385 N382 gg362
    have Z385 : n0 ≤ h385.size := Nat.le_trans Z382 (Keep.of_wr W385).1
    obtain ⟨cl387, Ar387, q387, S387, M387, H387, J387⟩ := id V385
    have hin387 : ¬ ((8 : Int32) < 0 ∨ cl387.slots.size ≤ ((8 : Int32)).toNatClampNeg) := inb_of S387 ⟨by decide, by decide⟩
    obtain ⟨T388, h388, X388, e388, W388, st388⟩ := stB X385 hx hZ e385 Ar387 (j := (8 : Int32)) hin387 (g := (mkF m 158 #[.val (.long q0), .second, .val (.long q1), .second, .val (.int p2), .val (.int 11), .val (.ref b362), .unset, .unset, .unset, .unset, .unset, .unset, .unset, .unset] [(.int ((q1.toInt32).toInt8.toInt32)), (.int 8), (.ref b362)])) rfl rfl (hb hby at_158)
    have V388 : Arv Z h388 b362 k362 .byte (11 : Int32) [(.int (own_by (q0.toInt32))), (.int (own_by (own_lu q0 (8 : Int32)))), (.int (own_by (own_lu q0 (16 : Int32)))), (.int (own_by (own_lu q0 (24 : Int32)))), (.int (own_by (own_lu q0 (32 : Int32)))), (.int (own_by (own_lu q0 (40 : Int32)))), (.int (own_by (own_lu q0 (48 : Int32)))), (.int (own_by (own_lu q0 (56 : Int32)))), (.int (own_by (q1.toInt32))), (.int 0), (.int 0)] (.int 0) := Arv.set Ar387 q387 S387 M387 H387 J387 (fits_nar_byte _) W388 8 rfl (Nat.le_of_ble_eq_true rfl)
    have N388 := Fr.snoc X388 N385 gg362
    have Z388 : n0 ≤ h388.size := Nat.le_trans Z385 (Keep.of_wr W388).1
    obtain ⟨cl390, Ar390, q390, S390, M390, H390, J390⟩ := id V388
    have hin390 : ¬ ((9 : Int32) < 0 ∨ cl390.slots.size ≤ ((9 : Int32)).toNatClampNeg) := inb_of S390 ⟨by decide, by decide⟩
    obtain ⟨T391, h391, X391, e391, W391, st391⟩ := stB X388 hx hZ e388 Ar390 (j := (9 : Int32)) hin390 (g := (mkF m 176 #[.val (.long q0), .second, .val (.long q1), .second, .val (.int p2), .val (.int 11), .val (.ref b362), .unset, .unset, .unset, .unset, .unset, .unset, .unset, .unset] [(.int ((own_lu q1 (8 : Int32)).toInt8.toInt32)), (.int 9), (.ref b362)])) rfl rfl (hb hby at_176)
    have V391 : Arv Z h391 b362 k362 .byte (11 : Int32) [(.int (own_by (q0.toInt32))), (.int (own_by (own_lu q0 (8 : Int32)))), (.int (own_by (own_lu q0 (16 : Int32)))), (.int (own_by (own_lu q0 (24 : Int32)))), (.int (own_by (own_lu q0 (32 : Int32)))), (.int (own_by (own_lu q0 (40 : Int32)))), (.int (own_by (own_lu q0 (48 : Int32)))), (.int (own_by (own_lu q0 (56 : Int32)))), (.int (own_by (q1.toInt32))), (.int (own_by (own_lu q1 (8 : Int32)))), (.int 0)] (.int 0) := Arv.set Ar390 q390 S390 M390 H390 J390 (fits_nar_byte _) W391 9 rfl (Nat.le_of_ble_eq_true rfl)
    have N391 := Fr.snoc X391 N388 gg362
    have Z391 : n0 ≤ h391.size := Nat.le_trans Z388 (Keep.of_wr W391).1
    obtain ⟨cl393, Ar393, q393, S393, M393, H393, J393⟩ := id V391
    have hin393 : ¬ ((10 : Int32) < 0 ∨ cl393.slots.size ≤ ((10 : Int32)).toNatClampNeg) := inb_of S393 ⟨by decide, by decide⟩
    obtain ⟨T394, h394, X394, e394, W394, st394⟩ := stB X391 hx hZ e391 Ar393 (j := (10 : Int32)) hin393 (g := (mkF m 194 #[.val (.long q0), .second, .val (.long q1), .second, .val (.int p2), .val (.int 11), .val (.ref b362), .unset, .unset, .unset, .unset, .unset, .unset, .unset, .unset] [(.int ((own_lu q1 (16 : Int32)).toInt8.toInt32)), (.int 10), (.ref b362)])) rfl rfl (hb hby at_194)
    have V394 : Arv Z h394 b362 k362 .byte (11 : Int32) [(.int (own_by (q0.toInt32))), (.int (own_by (own_lu q0 (8 : Int32)))), (.int (own_by (own_lu q0 (16 : Int32)))), (.int (own_by (own_lu q0 (24 : Int32)))), (.int (own_by (own_lu q0 (32 : Int32)))), (.int (own_by (own_lu q0 (40 : Int32)))), (.int (own_by (own_lu q0 (48 : Int32)))), (.int (own_by (own_lu q0 (56 : Int32)))), (.int (own_by (q1.toInt32))), (.int (own_by (own_lu q1 (8 : Int32)))), (.int (own_by (own_lu q1 (16 : Int32))))] (.int 0) := Arv.set Ar393 q393 S393 M393 H393 J393 (fits_nar_byte _) W394 10 rfl (Nat.le_of_ble_eq_true rfl)
    have N394 := Fr.snoc X394 N391 gg362
    have Z394 : n0 ≤ h394.size := Nat.le_trans Z391 (Keep.of_wr W394).1
    obtain ⟨_, _, ⟨T396, L396, k396, n396⟩, -, X396, ⟨Lc396, hQ396, l396, y396, z396⟩, st396⟩ := Jvm.LawKit.callS X394 hx (y := (⟨"com/example/forkline/forkline/bucketing/MurmurHash3Hash32PinLaw", "mixBlock", "(II)I"⟩ : MethodName)) hown (mvT hZ (hw _ (List.mem_of_getElem? (i := 22) rfl))) (mvT hZ (hw _ (List.mem_of_getElem? (i := 23) rfl))) (mvT hZ (hw _ (List.mem_of_getElem? (i := 24) rfl))) (mvT hZ (hw _ (List.mem_of_getElem? (i := 25) rfl))) (by decide) (backOf (W := 0) (rm4 l Z a0 hw [] (0 : Int32) (q0.toInt32) h394 n0 Z394) hZ (hw _ (List.mem_of_getElem? (i := 25) rfl)) (hw _ (List.mem_of_getElem? (i := 24) rfl)) (by decide) (by decide)) (g := (mkF m 235 #[.val (.long q0), .second, .val (.long q1), .second, .val (.int p2), .val (.int 11), .val (.ref b362), .val (.int (q0.toInt32)), .val (.int (own_lu q0 (32 : Int32))), .val (.int (q1.toInt32)), .val (.int 2), .val (.int 3), .val (.int 0), .unset, .unset] [(.int (q0.toInt32)), (.int 0)])) rfl (by rw [hml]; rfl) (argsL := [(.int 0), (.int (q0.toInt32))]) (rest := []) (lenOf pd_28II29I rfl) rfl (by show 2 * 0 + _ ≤ _; exact Nat.le_of_eq rfl) (hb hby at_235) (fun _ _ => ⟨rfl, e394, (by decide : 1 + 0 ≤ _), (by decide : 11 + 0 ≤ _)⟩)
    dsimp only [Pt.U, Pt.locs, Pt.cells, Pt.slots] at X396 l396 y396 z396 st396 hQ396
    subst l396 y396 z396
    obtain ⟨rfl, N396q, e396⟩ := hQ396
    have N396 := Fr.app N394 N396q
    obtain ⟨_, _, ⟨T397, L397, k397, n397⟩, -, X397, ⟨Lc397, hQ397, l397, y397, z397⟩, st397⟩ := Jvm.LawKit.callS X396 hx (y := (⟨"com/example/forkline/forkline/bucketing/MurmurHash3Hash32PinLaw", "mixBlock", "(II)I"⟩ : MethodName)) hown (mvT hZ (hw _ (List.mem_of_getElem? (i := 22) rfl))) (mvT hZ (hw _ (List.mem_of_getElem? (i := 23) rfl))) (mvT hZ (hw _ (List.mem_of_getElem? (i := 24) rfl))) (mvT hZ (hw _ (List.mem_of_getElem? (i := 25) rfl))) (by decide) (backOf (W := 0) (rm4 l Z a0 hw [] (own_mb (0 : Int32) (q0.toInt32)) (own_lu q0 (32 : Int32)) h394 n0 Z394) hZ (hw _ (List.mem_of_getElem? (i := 25) rfl)) (hw _ (List.mem_of_getElem? (i := 24) rfl)) (by decide) (by decide)) (g := (mkF m 250 #[.val (.long q0), .second, .val (.long q1), .second, .val (.int p2), .val (.int 11), .val (.ref b362), .val (.int (q0.toInt32)), .val (.int (own_lu q0 (32 : Int32))), .val (.int (q1.toInt32)), .val (.int 2), .val (.int 3), .val (.int (own_mb (0 : Int32) (q0.toInt32))), .unset, .unset] [(.int (own_lu q0 (32 : Int32))), (.int (own_mb (0 : Int32) (q0.toInt32)))])) rfl (by rw [hml]; rfl) (argsL := [(.int (own_mb (0 : Int32) (q0.toInt32))), (.int (own_lu q0 (32 : Int32)))]) (rest := []) (lenOf pd_28II29I rfl) rfl (by show 2 * 0 + _ ≤ _; exact Nat.le_of_eq rfl) (hb hby at_250) (fun _ _ => ⟨rfl, e396, (by decide : 1 + 0 ≤ _), (by decide : 11 + 0 ≤ _)⟩)
    dsimp only [Pt.U, Pt.locs, Pt.cells, Pt.slots] at X397 l397 y397 z397 st397 hQ397
    subst l397 y397 z397
    obtain ⟨rfl, N397q, e397⟩ := hQ397
    have N397 := Fr.app N396 N397q
    obtain ⟨_, _, ⟨T398, L398, k398, n398⟩, -, X398, ⟨Lc398, hQ398, l398, y398, z398⟩, st398⟩ := Jvm.LawKit.callS X397 hx (y := (⟨"com/example/forkline/forkline/bucketing/MurmurHash3", "hash32", "([B)I"⟩ : MethodName)) hown (mvT hZ (hw _ (List.mem_of_getElem? (i := 4) rfl))) (mvT hZ (hw _ (List.mem_of_getElem? (i := 5) rfl))) (mvT hZ (hw _ (List.mem_of_getElem? (i := 6) rfl))) (mvT hZ (hw _ (List.mem_of_getElem? (i := 7) rfl))) (by decide) (backOf (W := 0) (rmH_11 l Z a0 hw [] b362 k362 (own_by (q0.toInt32)) (own_by (own_lu q0 (8 : Int32))) (own_by (own_lu q0 (16 : Int32))) (own_by (own_lu q0 (24 : Int32))) (own_by (own_lu q0 (32 : Int32))) (own_by (own_lu q0 (40 : Int32))) (own_by (own_lu q0 (48 : Int32))) (own_by (own_lu q0 (56 : Int32))) (own_by (q1.toInt32)) (own_by (own_lu q1 (8 : Int32))) (own_by (own_lu q1 (16 : Int32))) h394 n0 Z394 V394) hZ (hw _ (List.mem_of_getElem? (i := 7) rfl)) (hw _ (List.mem_of_getElem? (i := 6) rfl)) (by decide) (by decide)) (g := (mkF m 386 #[.val (.long q0), .second, .val (.long q1), .second, .val (.int p2), .val (.int 11), .val (.ref b362), .val (.int (q0.toInt32)), .val (.int (own_lu q0 (32 : Int32))), .val (.int (q1.toInt32)), .val (.int 2), .val (.int 3), .val (.int (own_fin (((own_mb (own_mb (0 : Int32) (q0.toInt32)) (own_lu q0 (32 : Int32))) ^^^ (own_scr ((q1.toInt32) &&& (16777215 : Int32)))) ^^^ (11 : Int32)))), .val (.int (q1.toInt32)), .val (.int (own_scr ((q1.toInt32) &&& (16777215 : Int32))))] [(.ref b362)])) rfl (by rw [hml]; rfl) (argsL := [(.ref b362)]) (rest := []) (lenOf pd_285bB29I rfl) rfl (by show 2 * 0 + _ ≤ _; exact Nat.le_of_eq rfl) (hb hby at_386) (fun _ _ => ⟨rfl, e397, (by decide : 1 + 0 ≤ _), (by decide : 11 + 0 ≤ _)⟩)
    dsimp only [Pt.U, Pt.locs, Pt.cells, Pt.slots] at X398 l398 y398 z398 st398 hQ398
    subst l398 y398 z398
    obtain ⟨rfl, N398q, e398⟩ := hQ398
    have N398 := Fr.app N397 N398q
    obtain ⟨fs, hr, hrun, hended, hW, hsame⟩ := X398.leave (v := some (.int 1)) (fun h => by rw [Bd.returns] at h; cases h)
    refine ⟨_, _, pre0 _ ?_, hrun, hended, _, _, rfl, ?_, ⟨_, rfl⟩, hW, hsame.mono (by decide) (by decide)⟩
    · refine G164 _ ?_
      rw [hn]
      refine own_iload X0.here hx (hb hby at_10) rfl ?_
      refine st362 _ ?_
      show Steps p.tables e below (T362.setTop (mkF m 14 #[.val (.long q0), .second, .val (.long q1), .second, .val (.int p2), .val (.int 11), .unset, .unset, .unset, .unset, .unset, .unset, .unset, .unset, .unset] [(.ref b362)])) _
      refine own_astore X362.here hx (hb hby at_14) rfl (l' := #[.val (.long q0), .second, .val (.long q1), .second, .val (.int p2), .val (.int 11), .val (.ref b362), .unset, .unset, .unset, .unset, .unset, .unset, .unset, .unset]) rfl ?_
      refine own_iload X362.here hx (hb hby at_16) rfl ?_
      refine own_ifNo X362.here hx (hb hby at_18) ((if0 _ _).trans (tlt (by decide : (0 : Int32) < (11 : Int32))).2.2.2) ?_
      refine own_aload X362.here hx (hb hby at_21) rfl rfl ?_
      refine own_iconst X362.here hx (0 : Int32) (hb hby at_23) rfl ?_
      refine own_lloadN X362.here hx (hb hby at_24) rfl ?_
      refine own_l2i X362.here hx (hb hby at_25) ?_
      refine own_i2b X362.here hx (hb hby at_26) ?_
      refine st364 _ ?_
      show Steps p.tables e below (T364.setTop (mkF m 28 #[.val (.long q0), .second, .val (.long q1), .second, .val (.int p2), .val (.int 11), .val (.ref b362), .unset, .unset, .unset, .unset, .unset, .unset, .unset, .unset] [])) _
      refine own_iload X364.here hx (hb hby at_28) rfl ?_
      refine own_iconst X364.here hx (1 : Int32) (hb hby at_30) rfl ?_
      refine own_icmpNo X364.here hx (hb hby at_31) (tlt (by decide : (1 : Int32) < (11 : Int32))).2.2.2 ?_
      refine own_aload X364.here hx (hb hby at_34) rfl rfl ?_
      refine own_iconst X364.here hx (1 : Int32) (hb hby at_36) rfl ?_
      refine own_lloadN X364.here hx (hb hby at_37) rfl ?_
      refine own_bipush X364.here hx (8 : Int32) (hb hby at_38) rfl ?_
      refine own_lushr X364.here hx (hb hby at_40) ?_
      refine own_l2i X364.here hx (hb hby at_41) ?_
      show Steps p.tables e below (T364.setTop (mkF m 42 #[.val (.long q0), .second, .val (.long q1), .second, .val (.int p2), .val (.int 11), .val (.ref b362), .unset, .unset, .unset, .unset, .unset, .unset, .unset, .unset] [(.int (own_lu q0 (8 : Int32))), (.int 1), (.ref b362)])) _
      refine own_i2b X364.here hx (hb hby at_42) ?_
      refine st367 _ ?_
      show Steps p.tables e below (T367.setTop (mkF m 44 #[.val (.long q0), .second, .val (.long q1), .second, .val (.int p2), .val (.int 11), .val (.ref b362), .unset, .unset, .unset, .unset, .unset, .unset, .unset, .unset] [])) _
      refine own_iload X367.here hx (hb hby at_44) rfl ?_
      refine own_iconst X367.here hx (2 : Int32) (hb hby at_46) rfl ?_
      refine own_icmpNo X367.here hx (hb hby at_47) (tlt (by decide : (2 : Int32) < (11 : Int32))).2.2.2 ?_
      refine own_aload X367.here hx (hb hby at_50) rfl rfl ?_
      refine own_iconst X367.here hx (2 : Int32) (hb hby at_52) rfl ?_
      refine own_lloadN X367.here hx (hb hby at_53) rfl ?_
      refine own_bipush X367.here hx (16 : Int32) (hb hby at_54) rfl ?_
      refine own_lushr X367.here hx (hb hby at_56) ?_
      refine own_l2i X367.here hx (hb hby at_57) ?_
      show Steps p.tables e below (T367.setTop (mkF m 58 #[.val (.long q0), .second, .val (.long q1), .second, .val (.int p2), .val (.int 11), .val (.ref b362), .unset, .unset, .unset, .unset, .unset, .unset, .unset, .unset] [(.int (own_lu q0 (16 : Int32))), (.int 2), (.ref b362)])) _
      refine own_i2b X367.here hx (hb hby at_58) ?_
      refine st370 _ ?_
      show Steps p.tables e below (T370.setTop (mkF m 60 #[.val (.long q0), .second, .val (.long q1), .second, .val (.int p2), .val (.int 11), .val (.ref b362), .unset, .unset, .unset, .unset, .unset, .unset, .unset, .unset] [])) _
      refine own_iload X370.here hx (hb hby at_60) rfl ?_
      refine own_iconst X370.here hx (3 : Int32) (hb hby at_62) rfl ?_
      refine own_icmpNo X370.here hx (hb hby at_63) (tlt (by decide : (3 : Int32) < (11 : Int32))).2.2.2 ?_
      refine own_aload X370.here hx (hb hby at_66) rfl rfl ?_
      refine own_iconst X370.here hx (3 : Int32) (hb hby at_68) rfl ?_
      refine own_lloadN X370.here hx (hb hby at_69) rfl ?_
      refine own_bipush X370.here hx (24 : Int32) (hb hby at_70) rfl ?_
      refine own_lushr X370.here hx (hb hby at_72) ?_
      refine own_l2i X370.here hx (hb hby at_73) ?_
      show Steps p.tables e below (T370.setTop (mkF m 74 #[.val (.long q0), .second, .val (.long q1), .second, .val (.int p2), .val (.int 11), .val (.ref b362), .unset, .unset, .unset, .unset, .unset, .unset, .unset, .unset] [(.int (own_lu q0 (24 : Int32))), (.int 3), (.ref b362)])) _
      refine own_i2b X370.here hx (hb hby at_74) ?_
      refine st373 _ ?_
      show Steps p.tables e below (T373.setTop (mkF m 76 #[.val (.long q0), .second, .val (.long q1), .second, .val (.int p2), .val (.int 11), .val (.ref b362), .unset, .unset, .unset, .unset, .unset, .unset, .unset, .unset] [])) _
      refine own_iload X373.here hx (hb hby at_76) rfl ?_
      refine own_iconst X373.here hx (4 : Int32) (hb hby at_78) rfl ?_
      refine own_icmpNo X373.here hx (hb hby at_79) (tlt (by decide : (4 : Int32) < (11 : Int32))).2.2.2 ?_
      refine own_aload X373.here hx (hb hby at_82) rfl rfl ?_
      refine own_iconst X373.here hx (4 : Int32) (hb hby at_84) rfl ?_
      refine own_lloadN X373.here hx (hb hby at_85) rfl ?_
      refine own_bipush X373.here hx (32 : Int32) (hb hby at_86) rfl ?_
      refine own_lushr X373.here hx (hb hby at_88) ?_
      refine own_l2i X373.here hx (hb hby at_89) ?_
      show Steps p.tables e below (T373.setTop (mkF m 90 #[.val (.long q0), .second, .val (.long q1), .second, .val (.int p2), .val (.int 11), .val (.ref b362), .unset, .unset, .unset, .unset, .unset, .unset, .unset, .unset] [(.int (own_lu q0 (32 : Int32))), (.int 4), (.ref b362)])) _
      refine own_i2b X373.here hx (hb hby at_90) ?_
      refine st376 _ ?_
      show Steps p.tables e below (T376.setTop (mkF m 92 #[.val (.long q0), .second, .val (.long q1), .second, .val (.int p2), .val (.int 11), .val (.ref b362), .unset, .unset, .unset, .unset, .unset, .unset, .unset, .unset] [])) _
      refine own_iload X376.here hx (hb hby at_92) rfl ?_
      refine own_iconst X376.here hx (5 : Int32) (hb hby at_94) rfl ?_
      refine own_icmpNo X376.here hx (hb hby at_95) (tlt (by decide : (5 : Int32) < (11 : Int32))).2.2.2 ?_
      refine own_aload X376.here hx (hb hby at_98) rfl rfl ?_
      refine own_iconst X376.here hx (5 : Int32) (hb hby at_100) rfl ?_
      refine own_lloadN X376.here hx (hb hby at_101) rfl ?_
      refine own_bipush X376.here hx (40 : Int32) (hb hby at_102) rfl ?_
      refine own_lushr X376.here hx (hb hby at_104) ?_
      refine own_l2i X376.here hx (hb hby at_105) ?_
      show Steps p.tables e below (T376.setTop (mkF m 106 #[.val (.long q0), .second, .val (.long q1), .second, .val (.int p2), .val (.int 11), .val (.ref b362), .unset, .unset, .unset, .unset, .unset, .unset, .unset, .unset] [(.int (own_lu q0 (40 : Int32))), (.int 5), (.ref b362)])) _
      refine own_i2b X376.here hx (hb hby at_106) ?_
      refine st379 _ ?_
      show Steps p.tables e below (T379.setTop (mkF m 108 #[.val (.long q0), .second, .val (.long q1), .second, .val (.int p2), .val (.int 11), .val (.ref b362), .unset, .unset, .unset, .unset, .unset, .unset, .unset, .unset] [])) _
      refine own_iload X379.here hx (hb hby at_108) rfl ?_
      refine own_bipush X379.here hx (6 : Int32) (hb hby at_110) rfl ?_
      refine own_icmpNo X379.here hx (hb hby at_112) (tlt (by decide : (6 : Int32) < (11 : Int32))).2.2.2 ?_
      refine own_aload X379.here hx (hb hby at_115) rfl rfl ?_
      refine own_bipush X379.here hx (6 : Int32) (hb hby at_117) rfl ?_
      refine own_lloadN X379.here hx (hb hby at_119) rfl ?_
      refine own_bipush X379.here hx (48 : Int32) (hb hby at_120) rfl ?_
      refine own_lushr X379.here hx (hb hby at_122) ?_
      refine own_l2i X379.here hx (hb hby at_123) ?_
      show Steps p.tables e below (T379.setTop (mkF m 124 #[.val (.long q0), .second, .val (.long q1), .second, .val (.int p2), .val (.int 11), .val (.ref b362), .unset, .unset, .unset, .unset, .unset, .unset, .unset, .unset] [(.int (own_lu q0 (48 : Int32))), (.int 6), (.ref b362)])) _
      refine own_i2b X379.here hx (hb hby at_124) ?_
      refine st382 _ ?_
      show Steps p.tables e below (T382.setTop (mkF m 126 #[.val (.long q0), .second, .val (.long q1), .second, .val (.int p2), .val (.int 11), .val (.ref b362), .unset, .unset, .unset, .unset, .unset, .unset, .unset, .unset] [])) _
      refine own_iload X382.here hx (hb hby at_126) rfl ?_
      refine own_bipush X382.here hx (7 : Int32) (hb hby at_128) rfl ?_
      refine own_icmpNo X382.here hx (hb hby at_130) (tlt (by decide : (7 : Int32) < (11 : Int32))).2.2.2 ?_
      refine own_aload X382.here hx (hb hby at_133) rfl rfl ?_
      refine own_bipush X382.here hx (7 : Int32) (hb hby at_135) rfl ?_
      refine own_lloadN X382.here hx (hb hby at_137) rfl ?_
      refine own_bipush X382.here hx (56 : Int32) (hb hby at_138) rfl ?_
      refine own_lushr X382.here hx (hb hby at_140) ?_
      refine own_l2i X382.here hx (hb hby at_141) ?_
      show Steps p.tables e below (T382.setTop (mkF m 142 #[.val (.long q0), .second, .val (.long q1), .second, .val (.int p2), .val (.int 11), .val (.ref b362), .unset, .unset, .unset, .unset, .unset, .unset, .unset, .unset] [(.int (own_lu q0 (56 : Int32))), (.int 7), (.ref b362)])) _
      refine own_i2b X382.here hx (hb hby at_142) ?_
      refine st385 _ ?_
      show Steps p.tables e below (T385.setTop (mkF m 144 #[.val (.long q0), .second, .val (.long q1), .second, .val (.int p2), .val (.int 11), .val (.ref b362), .unset, .unset, .unset, .unset, .unset, .unset, .unset, .unset] [])) _
      refine own_iload X385.here hx (hb hby at_144) rfl ?_
      refine own_bipush X385.here hx (8 : Int32) (hb hby at_146) rfl ?_
      refine own_icmpNo X385.here hx (hb hby at_148) (tlt (by decide : (8 : Int32) < (11 : Int32))).2.2.2 ?_
      refine own_aload X385.here hx (hb hby at_151) rfl rfl ?_
      refine own_bipush X385.here hx (8 : Int32) (hb hby at_153) rfl ?_
      refine own_lloadN X385.here hx (hb hby at_155) rfl ?_
      refine own_l2i X385.here hx (hb hby at_156) ?_
      refine own_i2b X385.here hx (hb hby at_157) ?_
      refine st388 _ ?_
      show Steps p.tables e below (T388.setTop (mkF m 159 #[.val (.long q0), .second, .val (.long q1), .second, .val (.int p2), .val (.int 11), .val (.ref b362), .unset, .unset, .unset, .unset, .unset, .unset, .unset, .unset] [])) _
      refine own_iload X388.here hx (hb hby at_159) rfl ?_
      refine own_bipush X388.here hx (9 : Int32) (hb hby at_161) rfl ?_
      refine own_icmpNo X388.here hx (hb hby at_163) (tlt (by decide : (9 : Int32) < (11 : Int32))).2.2.2 ?_
      refine own_aload X388.here hx (hb hby at_166) rfl rfl ?_
      refine own_bipush X388.here hx (9 : Int32) (hb hby at_168) rfl ?_
      refine own_lloadN X388.here hx (hb hby at_170) rfl ?_
      refine own_bipush X388.here hx (8 : Int32) (hb hby at_171) rfl ?_
      refine own_lushr X388.here hx (hb hby at_173) ?_
      refine own_l2i X388.here hx (hb hby at_174) ?_
      show Steps p.tables e below (T388.setTop (mkF m 175 #[.val (.long q0), .second, .val (.long q1), .second, .val (.int p2), .val (.int 11), .val (.ref b362), .unset, .unset, .unset, .unset, .unset, .unset, .unset, .unset] [(.int (own_lu q1 (8 : Int32))), (.int 9), (.ref b362)])) _
      refine own_i2b X388.here hx (hb hby at_175) ?_
      refine st391 _ ?_
      show Steps p.tables e below (T391.setTop (mkF m 177 #[.val (.long q0), .second, .val (.long q1), .second, .val (.int p2), .val (.int 11), .val (.ref b362), .unset, .unset, .unset, .unset, .unset, .unset, .unset, .unset] [])) _
      refine own_iload X391.here hx (hb hby at_177) rfl ?_
      refine own_bipush X391.here hx (10 : Int32) (hb hby at_179) rfl ?_
      refine own_icmpNo X391.here hx (hb hby at_181) (tlt (by decide : (10 : Int32) < (11 : Int32))).2.2.2 ?_
      refine own_aload X391.here hx (hb hby at_184) rfl rfl ?_
      refine own_bipush X391.here hx (10 : Int32) (hb hby at_186) rfl ?_
      refine own_lloadN X391.here hx (hb hby at_188) rfl ?_
      refine own_bipush X391.here hx (16 : Int32) (hb hby at_189) rfl ?_
      refine own_lushr X391.here hx (hb hby at_191) ?_
      refine own_l2i X391.here hx (hb hby at_192) ?_
      show Steps p.tables e below (T391.setTop (mkF m 193 #[.val (.long q0), .second, .val (.long q1), .second, .val (.int p2), .val (.int 11), .val (.ref b362), .unset, .unset, .unset, .unset, .unset, .unset, .unset, .unset] [(.int (own_lu q1 (16 : Int32))), (.int 10), (.ref b362)])) _
      refine own_i2b X391.here hx (hb hby at_193) ?_
      refine st394 _ ?_
      show Steps p.tables e below (T394.setTop (mkF m 195 #[.val (.long q0), .second, .val (.long q1), .second, .val (.int p2), .val (.int 11), .val (.ref b362), .unset, .unset, .unset, .unset, .unset, .unset, .unset, .unset] [])) _
      refine own_lloadN X394.here hx (hb hby at_195) rfl ?_
      refine own_l2i X394.here hx (hb hby at_196) ?_
      refine own_istore X394.here hx (hb hby at_197) (l' := #[.val (.long q0), .second, .val (.long q1), .second, .val (.int p2), .val (.int 11), .val (.ref b362), .val (.int (q0.toInt32)), .unset, .unset, .unset, .unset, .unset, .unset, .unset]) rfl ?_
      refine own_lloadN X394.here hx (hb hby at_199) rfl ?_
      refine own_bipush X394.here hx (32 : Int32) (hb hby at_200) rfl ?_
      refine own_lushr X394.here hx (hb hby at_202) ?_
      refine own_l2i X394.here hx (hb hby at_203) ?_
      show Steps p.tables e below (T394.setTop (mkF m 204 #[.val (.long q0), .second, .val (.long q1), .second, .val (.int p2), .val (.int 11), .val (.ref b362), .val (.int (q0.toInt32)), .unset, .unset, .unset, .unset, .unset, .unset, .unset] [(.int (own_lu q0 (32 : Int32)))])) _
      refine own_istore X394.here hx (hb hby at_204) (l' := #[.val (.long q0), .second, .val (.long q1), .second, .val (.int p2), .val (.int 11), .val (.ref b362), .val (.int (q0.toInt32)), .val (.int (own_lu q0 (32 : Int32))), .unset, .unset, .unset, .unset, .unset, .unset]) rfl ?_
      refine own_lloadN X394.here hx (hb hby at_206) rfl ?_
      refine own_l2i X394.here hx (hb hby at_207) ?_
      refine own_istore X394.here hx (hb hby at_208) (l' := #[.val (.long q0), .second, .val (.long q1), .second, .val (.int p2), .val (.int 11), .val (.ref b362), .val (.int (q0.toInt32)), .val (.int (own_lu q0 (32 : Int32))), .val (.int (q1.toInt32)), .unset, .unset, .unset, .unset, .unset]) rfl ?_
      refine own_iload X394.here hx (hb hby at_210) rfl ?_
      refine own_iconst X394.here hx (4 : Int32) (hb hby at_212) rfl ?_
      refine own_idiv X394.here hx (hb hby at_213) (by decide) ?_
      show Steps p.tables e below (T394.setTop (mkF m 214 #[.val (.long q0), .second, .val (.long q1), .second, .val (.int p2), .val (.int 11), .val (.ref b362), .val (.int (q0.toInt32)), .val (.int (own_lu q0 (32 : Int32))), .val (.int (q1.toInt32)), .unset, .unset, .unset, .unset, .unset] [(.int 2)])) _
      refine own_istore X394.here hx (hb hby at_214) (l' := #[.val (.long q0), .second, .val (.long q1), .second, .val (.int p2), .val (.int 11), .val (.ref b362), .val (.int (q0.toInt32)), .val (.int (own_lu q0 (32 : Int32))), .val (.int (q1.toInt32)), .val (.int 2), .unset, .unset, .unset, .unset]) rfl ?_
      refine own_iload X394.here hx (hb hby at_216) rfl ?_
      refine own_iconst X394.here hx (4 : Int32) (hb hby at_218) rfl ?_
      refine own_irem X394.here hx (hb hby at_219) (by decide) ?_
      show Steps p.tables e below (T394.setTop (mkF m 220 #[.val (.long q0), .second, .val (.long q1), .second, .val (.int p2), .val (.int 11), .val (.ref b362), .val (.int (q0.toInt32)), .val (.int (own_lu q0 (32 : Int32))), .val (.int (q1.toInt32)), .val (.int 2), .unset, .unset, .unset, .unset] [(.int 3)])) _
      refine own_istore X394.here hx (hb hby at_220) (l' := #[.val (.long q0), .second, .val (.long q1), .second, .val (.int p2), .val (.int 11), .val (.ref b362), .val (.int (q0.toInt32)), .val (.int (own_lu q0 (32 : Int32))), .val (.int (q1.toInt32)), .val (.int 2), .val (.int 3), .unset, .unset, .unset]) rfl ?_
      refine own_iconst X394.here hx (0 : Int32) (hb hby at_222) rfl ?_
      refine own_istore X394.here hx (hb hby at_223) (l' := #[.val (.long q0), .second, .val (.long q1), .second, .val (.int p2), .val (.int 11), .val (.ref b362), .val (.int (q0.toInt32)), .val (.int (own_lu q0 (32 : Int32))), .val (.int (q1.toInt32)), .val (.int 2), .val (.int 3), .val (.int 0), .unset, .unset]) rfl ?_
      refine own_iload X394.here hx (hb hby at_225) rfl ?_
      refine own_iconst X394.here hx (1 : Int32) (hb hby at_227) rfl ?_
      refine own_icmpNo X394.here hx (hb hby at_228) (flt (by decide : ¬ ((2 : Int32) < (1 : Int32)))).1 ?_
      refine own_iload X394.here hx (hb hby at_231) rfl ?_
      refine own_iload X394.here hx (hb hby at_233) rfl ?_
      refine st396 _ ?_
      show Steps p.tables e below (T396.setTop (mkF m 238 #[.val (.long q0), .second, .val (.long q1), .second, .val (.int p2), .val (.int 11), .val (.ref b362), .val (.int (q0.toInt32)), .val (.int (own_lu q0 (32 : Int32))), .val (.int (q1.toInt32)), .val (.int 2), .val (.int 3), .val (.int 0), .unset, .unset] [(.int (own_mb (0 : Int32) (q0.toInt32)))])) _
      refine own_istore X396.here hx (hb hby at_238) (l' := #[.val (.long q0), .second, .val (.long q1), .second, .val (.int p2), .val (.int 11), .val (.ref b362), .val (.int (q0.toInt32)), .val (.int (own_lu q0 (32 : Int32))), .val (.int (q1.toInt32)), .val (.int 2), .val (.int 3), .val (.int (own_mb (0 : Int32) (q0.toInt32))), .unset, .unset]) rfl ?_
      refine own_iload X396.here hx (hb hby at_240) rfl ?_
      refine own_iconst X396.here hx (2 : Int32) (hb hby at_242) rfl ?_
      refine own_icmpNo X396.here hx (hb hby at_243) (flt (by decide : ¬ ((2 : Int32) < (2 : Int32)))).1 ?_
      refine own_iload X396.here hx (hb hby at_246) rfl ?_
      refine own_iload X396.here hx (hb hby at_248) rfl ?_
      refine st397 _ ?_
      show Steps p.tables e below (T397.setTop (mkF m 253 #[.val (.long q0), .second, .val (.long q1), .second, .val (.int p2), .val (.int 11), .val (.ref b362), .val (.int (q0.toInt32)), .val (.int (own_lu q0 (32 : Int32))), .val (.int (q1.toInt32)), .val (.int 2), .val (.int 3), .val (.int (own_mb (0 : Int32) (q0.toInt32))), .unset, .unset] [(.int (own_mb (own_mb (0 : Int32) (q0.toInt32)) (own_lu q0 (32 : Int32))))])) _
      refine own_istore X397.here hx (hb hby at_253) (l' := #[.val (.long q0), .second, .val (.long q1), .second, .val (.int p2), .val (.int 11), .val (.ref b362), .val (.int (q0.toInt32)), .val (.int (own_lu q0 (32 : Int32))), .val (.int (q1.toInt32)), .val (.int 2), .val (.int 3), .val (.int (own_mb (own_mb (0 : Int32) (q0.toInt32)) (own_lu q0 (32 : Int32)))), .unset, .unset]) rfl ?_
      refine own_iload X397.here hx (hb hby at_255) rfl ?_
      refine own_ifYes X397.here hx 257 265 rfl (hb hby at_257) ((if0 _ _).trans (feq (by decide : ¬ ((2 : Int32) = (0 : Int32)))).2) (by decide) (by decide) ?_
      refine own_iload X397.here hx (hb hby at_265) rfl ?_
      refine own_iconst X397.here hx (1 : Int32) (hb hby at_267) rfl ?_
      refine own_icmpYes X397.here hx 268 276 rfl (hb hby at_268) (feq (by decide : ¬ ((2 : Int32) = (1 : Int32)))).2 (by decide) (by decide) ?_
      refine own_iload X397.here hx (hb hby at_276) rfl ?_
      refine own_istore X397.here hx (hb hby at_278) (l' := #[.val (.long q0), .second, .val (.long q1), .second, .val (.int p2), .val (.int 11), .val (.ref b362), .val (.int (q0.toInt32)), .val (.int (own_lu q0 (32 : Int32))), .val (.int (q1.toInt32)), .val (.int 2), .val (.int 3), .val (.int (own_mb (own_mb (0 : Int32) (q0.toInt32)) (own_lu q0 (32 : Int32)))), .val (.int (q1.toInt32)), .unset]) rfl ?_
      refine own_iload X397.here hx (hb hby at_280) rfl ?_
      refine own_ifNo X397.here hx (hb hby at_282) ((if0 _ _).trans (tlt (by decide : (0 : Int32) < (3 : Int32))).2.2.2) ?_
      refine own_iload X397.here hx (hb hby at_285) rfl ?_
      refine own_iconst X397.here hx (1 : Int32) (hb hby at_287) rfl ?_
      refine own_bipush X397.here hx (8 : Int32) (hb hby at_288) rfl ?_
      refine own_iload X397.here hx (hb hby at_290) rfl ?_
      refine own_imul X397.here hx (hb hby at_292) ?_
      show Steps p.tables e below (T397.setTop (mkF m 293 #[.val (.long q0), .second, .val (.long q1), .second, .val (.int p2), .val (.int 11), .val (.ref b362), .val (.int (q0.toInt32)), .val (.int (own_lu q0 (32 : Int32))), .val (.int (q1.toInt32)), .val (.int 2), .val (.int 3), .val (.int (own_mb (own_mb (0 : Int32) (q0.toInt32)) (own_lu q0 (32 : Int32)))), .val (.int (q1.toInt32)), .unset] [(.int 24), (.int 1), (.int (q1.toInt32))])) _
      refine own_ishl X397.here hx (hb hby at_293) ?_
      show Steps p.tables e below (T397.setTop (mkF m 294 #[.val (.long q0), .second, .val (.long q1), .second, .val (.int p2), .val (.int 11), .val (.ref b362), .val (.int (q0.toInt32)), .val (.int (own_lu q0 (32 : Int32))), .val (.int (q1.toInt32)), .val (.int 2), .val (.int 3), .val (.int (own_mb (own_mb (0 : Int32) (q0.toInt32)) (own_lu q0 (32 : Int32)))), .val (.int (q1.toInt32)), .unset] [(.int 16777216), (.int (q1.toInt32))])) _
      refine own_iconst X397.here hx (1 : Int32) (hb hby at_294) rfl ?_
      refine own_isub X397.here hx (hb hby at_295) ?_
      show Steps p.tables e below (T397.setTop (mkF m 296 #[.val (.long q0), .second, .val (.long q1), .second, .val (.int p2), .val (.int 11), .val (.ref b362), .val (.int (q0.toInt32)), .val (.int (own_lu q0 (32 : Int32))), .val (.int (q1.toInt32)), .val (.int 2), .val (.int 3), .val (.int (own_mb (own_mb (0 : Int32) (q0.toInt32)) (own_lu q0 (32 : Int32)))), .val (.int (q1.toInt32)), .unset] [(.int 16777215), (.int (q1.toInt32))])) _
      refine own_iand X397.here hx (hb hby at_296) ?_
      show Steps p.tables e below (T397.setTop (mkF m 297 #[.val (.long q0), .second, .val (.long q1), .second, .val (.int p2), .val (.int 11), .val (.ref b362), .val (.int (q0.toInt32)), .val (.int (own_lu q0 (32 : Int32))), .val (.int (q1.toInt32)), .val (.int 2), .val (.int 3), .val (.int (own_mb (own_mb (0 : Int32) (q0.toInt32)) (own_lu q0 (32 : Int32)))), .val (.int (q1.toInt32)), .unset] [(.int ((q1.toInt32) &&& (16777215 : Int32)))])) _
      refine own_istore X397.here hx (hb hby at_297) (l' := #[.val (.long q0), .second, .val (.long q1), .second, .val (.int p2), .val (.int 11), .val (.ref b362), .val (.int (q0.toInt32)), .val (.int (own_lu q0 (32 : Int32))), .val (.int (q1.toInt32)), .val (.int 2), .val (.int 3), .val (.int (own_mb (own_mb (0 : Int32) (q0.toInt32)) (own_lu q0 (32 : Int32)))), .val (.int (q1.toInt32)), .val (.int ((q1.toInt32) &&& (16777215 : Int32)))]) rfl ?_
      refine own_iload X397.here hx (hb hby at_299) rfl ?_
      refine X397.ldcInt hx hown (mvT hZ (hw _ (List.mem_of_getElem? (i := 26) rfl))) (g := (mkF m 301 #[.val (.long q0), .second, .val (.long q1), .second, .val (.int p2), .val (.int 11), .val (.ref b362), .val (.int (q0.toInt32)), .val (.int (own_lu q0 (32 : Int32))), .val (.int (q1.toInt32)), .val (.int 2), .val (.int 3), .val (.int (own_mb (own_mb (0 : Int32) (q0.toInt32)) (own_lu q0 (32 : Int32)))), .val (.int (q1.toInt32)), .val (.int ((q1.toInt32) &&& (16777215 : Int32)))] [(.int ((q1.toInt32) &&& (16777215 : Int32)))])) rfl (hb hby at_301) _ ?_
      show Steps p.tables e below (T397.setTop (mkF m 303 #[.val (.long q0), .second, .val (.long q1), .second, .val (.int p2), .val (.int 11), .val (.ref b362), .val (.int (q0.toInt32)), .val (.int (own_lu q0 (32 : Int32))), .val (.int (q1.toInt32)), .val (.int 2), .val (.int 3), .val (.int (own_mb (own_mb (0 : Int32) (q0.toInt32)) (own_lu q0 (32 : Int32)))), .val (.int (q1.toInt32)), .val (.int ((q1.toInt32) &&& (16777215 : Int32)))] [(.int (-862048943)), (.int ((q1.toInt32) &&& (16777215 : Int32)))])) _
      refine own_imul X397.here hx (hb hby at_303) ?_
      refine own_istore X397.here hx (hb hby at_304) (l' := #[.val (.long q0), .second, .val (.long q1), .second, .val (.int p2), .val (.int 11), .val (.ref b362), .val (.int (q0.toInt32)), .val (.int (own_lu q0 (32 : Int32))), .val (.int (q1.toInt32)), .val (.int 2), .val (.int 3), .val (.int (own_mb (own_mb (0 : Int32) (q0.toInt32)) (own_lu q0 (32 : Int32)))), .val (.int (q1.toInt32)), .val (.int (((q1.toInt32) &&& (16777215 : Int32)) * (-862048943 : Int32)))]) rfl ?_
      refine own_iload X397.here hx (hb hby at_306) rfl ?_
      refine own_bipush X397.here hx (15 : Int32) (hb hby at_308) rfl ?_
      refine own_ishl X397.here hx (hb hby at_310) ?_
      refine own_iload X397.here hx (hb hby at_311) rfl ?_
      refine own_bipush X397.here hx (17 : Int32) (hb hby at_313) rfl ?_
      refine own_iushr X397.here hx (hb hby at_315) ?_
      refine own_ior X397.here hx (hb hby at_316) ?_
      show Steps p.tables e below (T397.setTop (mkF m 317 #[.val (.long q0), .second, .val (.long q1), .second, .val (.int p2), .val (.int 11), .val (.ref b362), .val (.int (q0.toInt32)), .val (.int (own_lu q0 (32 : Int32))), .val (.int (q1.toInt32)), .val (.int 2), .val (.int 3), .val (.int (own_mb (own_mb (0 : Int32) (q0.toInt32)) (own_lu q0 (32 : Int32)))), .val (.int (q1.toInt32)), .val (.int (((q1.toInt32) &&& (16777215 : Int32)) * (-862048943 : Int32)))] [(.int (own_rotl (((q1.toInt32) &&& (16777215 : Int32)) * (-862048943 : Int32)) (15 : Int32)))])) _
      refine own_istore X397.here hx (hb hby at_317) (l' := #[.val (.long q0), .second, .val (.long q1), .second, .val (.int p2), .val (.int 11), .val (.ref b362), .val (.int (q0.toInt32)), .val (.int (own_lu q0 (32 : Int32))), .val (.int (q1.toInt32)), .val (.int 2), .val (.int 3), .val (.int (own_mb (own_mb (0 : Int32) (q0.toInt32)) (own_lu q0 (32 : Int32)))), .val (.int (q1.toInt32)), .val (.int (own_rotl (((q1.toInt32) &&& (16777215 : Int32)) * (-862048943 : Int32)) (15 : Int32)))]) rfl ?_
      refine own_iload X397.here hx (hb hby at_319) rfl ?_
      refine X397.ldcInt hx hown (mvT hZ (hw _ (List.mem_of_getElem? (i := 27) rfl))) (g := (mkF m 321 #[.val (.long q0), .second, .val (.long q1), .second, .val (.int p2), .val (.int 11), .val (.ref b362), .val (.int (q0.toInt32)), .val (.int (own_lu q0 (32 : Int32))), .val (.int (q1.toInt32)), .val (.int 2), .val (.int 3), .val (.int (own_mb (own_mb (0 : Int32) (q0.toInt32)) (own_lu q0 (32 : Int32)))), .val (.int (q1.toInt32)), .val (.int (own_rotl (((q1.toInt32) &&& (16777215 : Int32)) * (-862048943 : Int32)) (15 : Int32)))] [(.int (own_rotl (((q1.toInt32) &&& (16777215 : Int32)) * (-862048943 : Int32)) (15 : Int32)))])) rfl (hb hby at_321) _ ?_
      show Steps p.tables e below (T397.setTop (mkF m 323 #[.val (.long q0), .second, .val (.long q1), .second, .val (.int p2), .val (.int 11), .val (.ref b362), .val (.int (q0.toInt32)), .val (.int (own_lu q0 (32 : Int32))), .val (.int (q1.toInt32)), .val (.int 2), .val (.int 3), .val (.int (own_mb (own_mb (0 : Int32) (q0.toInt32)) (own_lu q0 (32 : Int32)))), .val (.int (q1.toInt32)), .val (.int (own_rotl (((q1.toInt32) &&& (16777215 : Int32)) * (-862048943 : Int32)) (15 : Int32)))] [(.int 461845907), (.int (own_rotl (((q1.toInt32) &&& (16777215 : Int32)) * (-862048943 : Int32)) (15 : Int32)))])) _
      refine own_imul X397.here hx (hb hby at_323) ?_
      show Steps p.tables e below (T397.setTop (mkF m 324 #[.val (.long q0), .second, .val (.long q1), .second, .val (.int p2), .val (.int 11), .val (.ref b362), .val (.int (q0.toInt32)), .val (.int (own_lu q0 (32 : Int32))), .val (.int (q1.toInt32)), .val (.int 2), .val (.int 3), .val (.int (own_mb (own_mb (0 : Int32) (q0.toInt32)) (own_lu q0 (32 : Int32)))), .val (.int (q1.toInt32)), .val (.int (own_rotl (((q1.toInt32) &&& (16777215 : Int32)) * (-862048943 : Int32)) (15 : Int32)))] [(.int (own_scr ((q1.toInt32) &&& (16777215 : Int32))))])) _
      refine own_istore X397.here hx (hb hby at_324) (l' := #[.val (.long q0), .second, .val (.long q1), .second, .val (.int p2), .val (.int 11), .val (.ref b362), .val (.int (q0.toInt32)), .val (.int (own_lu q0 (32 : Int32))), .val (.int (q1.toInt32)), .val (.int 2), .val (.int 3), .val (.int (own_mb (own_mb (0 : Int32) (q0.toInt32)) (own_lu q0 (32 : Int32)))), .val (.int (q1.toInt32)), .val (.int (own_scr ((q1.toInt32) &&& (16777215 : Int32))))]) rfl ?_
      refine own_iload X397.here hx (hb hby at_326) rfl ?_
      refine own_iload X397.here hx (hb hby at_328) rfl ?_
      refine own_ixor X397.here hx (hb hby at_330) ?_
      refine own_istore X397.here hx (hb hby at_331) (l' := #[.val (.long q0), .second, .val (.long q1), .second, .val (.int p2), .val (.int 11), .val (.ref b362), .val (.int (q0.toInt32)), .val (.int (own_lu q0 (32 : Int32))), .val (.int (q1.toInt32)), .val (.int 2), .val (.int 3), .val (.int ((own_mb (own_mb (0 : Int32) (q0.toInt32)) (own_lu q0 (32 : Int32))) ^^^ (own_scr ((q1.toInt32) &&& (16777215 : Int32))))), .val (.int (q1.toInt32)), .val (.int (own_scr ((q1.toInt32) &&& (16777215 : Int32))))]) rfl ?_
      refine own_iload X397.here hx (hb hby at_333) rfl ?_
      refine own_iload X397.here hx (hb hby at_335) rfl ?_
      refine own_ixor X397.here hx (hb hby at_337) ?_
      refine own_istore X397.here hx (hb hby at_338) (l' := #[.val (.long q0), .second, .val (.long q1), .second, .val (.int p2), .val (.int 11), .val (.ref b362), .val (.int (q0.toInt32)), .val (.int (own_lu q0 (32 : Int32))), .val (.int (q1.toInt32)), .val (.int 2), .val (.int 3), .val (.int (((own_mb (own_mb (0 : Int32) (q0.toInt32)) (own_lu q0 (32 : Int32))) ^^^ (own_scr ((q1.toInt32) &&& (16777215 : Int32)))) ^^^ (11 : Int32))), .val (.int (q1.toInt32)), .val (.int (own_scr ((q1.toInt32) &&& (16777215 : Int32))))]) rfl ?_
      refine own_iload X397.here hx (hb hby at_340) rfl ?_
      refine own_iload X397.here hx (hb hby at_342) rfl ?_
      refine own_bipush X397.here hx (16 : Int32) (hb hby at_344) rfl ?_
      refine own_iushr X397.here hx (hb hby at_346) ?_
      refine own_ixor X397.here hx (hb hby at_347) ?_
      show Steps p.tables e below (T397.setTop (mkF m 348 #[.val (.long q0), .second, .val (.long q1), .second, .val (.int p2), .val (.int 11), .val (.ref b362), .val (.int (q0.toInt32)), .val (.int (own_lu q0 (32 : Int32))), .val (.int (q1.toInt32)), .val (.int 2), .val (.int 3), .val (.int (((own_mb (own_mb (0 : Int32) (q0.toInt32)) (own_lu q0 (32 : Int32))) ^^^ (own_scr ((q1.toInt32) &&& (16777215 : Int32)))) ^^^ (11 : Int32))), .val (.int (q1.toInt32)), .val (.int (own_scr ((q1.toInt32) &&& (16777215 : Int32))))] [(.int (own_x16 (((own_mb (own_mb (0 : Int32) (q0.toInt32)) (own_lu q0 (32 : Int32))) ^^^ (own_scr ((q1.toInt32) &&& (16777215 : Int32)))) ^^^ (11 : Int32))))])) _
      refine own_istore X397.here hx (hb hby at_348) (l' := #[.val (.long q0), .second, .val (.long q1), .second, .val (.int p2), .val (.int 11), .val (.ref b362), .val (.int (q0.toInt32)), .val (.int (own_lu q0 (32 : Int32))), .val (.int (q1.toInt32)), .val (.int 2), .val (.int 3), .val (.int (own_x16 (((own_mb (own_mb (0 : Int32) (q0.toInt32)) (own_lu q0 (32 : Int32))) ^^^ (own_scr ((q1.toInt32) &&& (16777215 : Int32)))) ^^^ (11 : Int32)))), .val (.int (q1.toInt32)), .val (.int (own_scr ((q1.toInt32) &&& (16777215 : Int32))))]) rfl ?_
      refine own_iload X397.here hx (hb hby at_350) rfl ?_
      refine X397.ldcInt hx hown (mvT hZ (hw _ (List.mem_of_getElem? (i := 2) rfl))) (g := (mkF m 352 #[.val (.long q0), .second, .val (.long q1), .second, .val (.int p2), .val (.int 11), .val (.ref b362), .val (.int (q0.toInt32)), .val (.int (own_lu q0 (32 : Int32))), .val (.int (q1.toInt32)), .val (.int 2), .val (.int 3), .val (.int (own_x16 (((own_mb (own_mb (0 : Int32) (q0.toInt32)) (own_lu q0 (32 : Int32))) ^^^ (own_scr ((q1.toInt32) &&& (16777215 : Int32)))) ^^^ (11 : Int32)))), .val (.int (q1.toInt32)), .val (.int (own_scr ((q1.toInt32) &&& (16777215 : Int32))))] [(.int (own_x16 (((own_mb (own_mb (0 : Int32) (q0.toInt32)) (own_lu q0 (32 : Int32))) ^^^ (own_scr ((q1.toInt32) &&& (16777215 : Int32)))) ^^^ (11 : Int32))))])) rfl (hb hby at_352) _ ?_
      show Steps p.tables e below (T397.setTop (mkF m 354 #[.val (.long q0), .second, .val (.long q1), .second, .val (.int p2), .val (.int 11), .val (.ref b362), .val (.int (q0.toInt32)), .val (.int (own_lu q0 (32 : Int32))), .val (.int (q1.toInt32)), .val (.int 2), .val (.int 3), .val (.int (own_x16 (((own_mb (own_mb (0 : Int32) (q0.toInt32)) (own_lu q0 (32 : Int32))) ^^^ (own_scr ((q1.toInt32) &&& (16777215 : Int32)))) ^^^ (11 : Int32)))), .val (.int (q1.toInt32)), .val (.int (own_scr ((q1.toInt32) &&& (16777215 : Int32))))] [(.int (-2048144789)), (.int (own_x16 (((own_mb (own_mb (0 : Int32) (q0.toInt32)) (own_lu q0 (32 : Int32))) ^^^ (own_scr ((q1.toInt32) &&& (16777215 : Int32)))) ^^^ (11 : Int32))))])) _
      refine own_imul X397.here hx (hb hby at_354) ?_
      refine own_istore X397.here hx (hb hby at_355) (l' := #[.val (.long q0), .second, .val (.long q1), .second, .val (.int p2), .val (.int 11), .val (.ref b362), .val (.int (q0.toInt32)), .val (.int (own_lu q0 (32 : Int32))), .val (.int (q1.toInt32)), .val (.int 2), .val (.int 3), .val (.int ((own_x16 (((own_mb (own_mb (0 : Int32) (q0.toInt32)) (own_lu q0 (32 : Int32))) ^^^ (own_scr ((q1.toInt32) &&& (16777215 : Int32)))) ^^^ (11 : Int32))) * (-2048144789 : Int32))), .val (.int (q1.toInt32)), .val (.int (own_scr ((q1.toInt32) &&& (16777215 : Int32))))]) rfl ?_
      refine own_iload X397.here hx (hb hby at_357) rfl ?_
      refine own_iload X397.here hx (hb hby at_359) rfl ?_
      refine own_bipush X397.here hx (13 : Int32) (hb hby at_361) rfl ?_
      refine own_iushr X397.here hx (hb hby at_363) ?_
      refine own_ixor X397.here hx (hb hby at_364) ?_
      show Steps p.tables e below (T397.setTop (mkF m 365 #[.val (.long q0), .second, .val (.long q1), .second, .val (.int p2), .val (.int 11), .val (.ref b362), .val (.int (q0.toInt32)), .val (.int (own_lu q0 (32 : Int32))), .val (.int (q1.toInt32)), .val (.int 2), .val (.int 3), .val (.int ((own_x16 (((own_mb (own_mb (0 : Int32) (q0.toInt32)) (own_lu q0 (32 : Int32))) ^^^ (own_scr ((q1.toInt32) &&& (16777215 : Int32)))) ^^^ (11 : Int32))) * (-2048144789 : Int32))), .val (.int (q1.toInt32)), .val (.int (own_scr ((q1.toInt32) &&& (16777215 : Int32))))] [(.int (own_x13 ((own_x16 (((own_mb (own_mb (0 : Int32) (q0.toInt32)) (own_lu q0 (32 : Int32))) ^^^ (own_scr ((q1.toInt32) &&& (16777215 : Int32)))) ^^^ (11 : Int32))) * (-2048144789 : Int32))))])) _
      refine own_istore X397.here hx (hb hby at_365) (l' := #[.val (.long q0), .second, .val (.long q1), .second, .val (.int p2), .val (.int 11), .val (.ref b362), .val (.int (q0.toInt32)), .val (.int (own_lu q0 (32 : Int32))), .val (.int (q1.toInt32)), .val (.int 2), .val (.int 3), .val (.int (own_x13 ((own_x16 (((own_mb (own_mb (0 : Int32) (q0.toInt32)) (own_lu q0 (32 : Int32))) ^^^ (own_scr ((q1.toInt32) &&& (16777215 : Int32)))) ^^^ (11 : Int32))) * (-2048144789 : Int32)))), .val (.int (q1.toInt32)), .val (.int (own_scr ((q1.toInt32) &&& (16777215 : Int32))))]) rfl ?_
      refine own_iload X397.here hx (hb hby at_367) rfl ?_
      refine X397.ldcInt hx hown (mvT hZ (hw _ (List.mem_of_getElem? (i := 3) rfl))) (g := (mkF m 369 #[.val (.long q0), .second, .val (.long q1), .second, .val (.int p2), .val (.int 11), .val (.ref b362), .val (.int (q0.toInt32)), .val (.int (own_lu q0 (32 : Int32))), .val (.int (q1.toInt32)), .val (.int 2), .val (.int 3), .val (.int (own_x13 ((own_x16 (((own_mb (own_mb (0 : Int32) (q0.toInt32)) (own_lu q0 (32 : Int32))) ^^^ (own_scr ((q1.toInt32) &&& (16777215 : Int32)))) ^^^ (11 : Int32))) * (-2048144789 : Int32)))), .val (.int (q1.toInt32)), .val (.int (own_scr ((q1.toInt32) &&& (16777215 : Int32))))] [(.int (own_x13 ((own_x16 (((own_mb (own_mb (0 : Int32) (q0.toInt32)) (own_lu q0 (32 : Int32))) ^^^ (own_scr ((q1.toInt32) &&& (16777215 : Int32)))) ^^^ (11 : Int32))) * (-2048144789 : Int32))))])) rfl (hb hby at_369) _ ?_
      show Steps p.tables e below (T397.setTop (mkF m 371 #[.val (.long q0), .second, .val (.long q1), .second, .val (.int p2), .val (.int 11), .val (.ref b362), .val (.int (q0.toInt32)), .val (.int (own_lu q0 (32 : Int32))), .val (.int (q1.toInt32)), .val (.int 2), .val (.int 3), .val (.int (own_x13 ((own_x16 (((own_mb (own_mb (0 : Int32) (q0.toInt32)) (own_lu q0 (32 : Int32))) ^^^ (own_scr ((q1.toInt32) &&& (16777215 : Int32)))) ^^^ (11 : Int32))) * (-2048144789 : Int32)))), .val (.int (q1.toInt32)), .val (.int (own_scr ((q1.toInt32) &&& (16777215 : Int32))))] [(.int (-1028477387)), (.int (own_x13 ((own_x16 (((own_mb (own_mb (0 : Int32) (q0.toInt32)) (own_lu q0 (32 : Int32))) ^^^ (own_scr ((q1.toInt32) &&& (16777215 : Int32)))) ^^^ (11 : Int32))) * (-2048144789 : Int32))))])) _
      refine own_imul X397.here hx (hb hby at_371) ?_
      refine own_istore X397.here hx (hb hby at_372) (l' := #[.val (.long q0), .second, .val (.long q1), .second, .val (.int p2), .val (.int 11), .val (.ref b362), .val (.int (q0.toInt32)), .val (.int (own_lu q0 (32 : Int32))), .val (.int (q1.toInt32)), .val (.int 2), .val (.int 3), .val (.int ((own_x13 ((own_x16 (((own_mb (own_mb (0 : Int32) (q0.toInt32)) (own_lu q0 (32 : Int32))) ^^^ (own_scr ((q1.toInt32) &&& (16777215 : Int32)))) ^^^ (11 : Int32))) * (-2048144789 : Int32))) * (-1028477387 : Int32))), .val (.int (q1.toInt32)), .val (.int (own_scr ((q1.toInt32) &&& (16777215 : Int32))))]) rfl ?_
      refine own_iload X397.here hx (hb hby at_374) rfl ?_
      refine own_iload X397.here hx (hb hby at_376) rfl ?_
      refine own_bipush X397.here hx (16 : Int32) (hb hby at_378) rfl ?_
      refine own_iushr X397.here hx (hb hby at_380) ?_
      refine own_ixor X397.here hx (hb hby at_381) ?_
      show Steps p.tables e below (T397.setTop (mkF m 382 #[.val (.long q0), .second, .val (.long q1), .second, .val (.int p2), .val (.int 11), .val (.ref b362), .val (.int (q0.toInt32)), .val (.int (own_lu q0 (32 : Int32))), .val (.int (q1.toInt32)), .val (.int 2), .val (.int 3), .val (.int ((own_x13 ((own_x16 (((own_mb (own_mb (0 : Int32) (q0.toInt32)) (own_lu q0 (32 : Int32))) ^^^ (own_scr ((q1.toInt32) &&& (16777215 : Int32)))) ^^^ (11 : Int32))) * (-2048144789 : Int32))) * (-1028477387 : Int32))), .val (.int (q1.toInt32)), .val (.int (own_scr ((q1.toInt32) &&& (16777215 : Int32))))] [(.int (own_fin (((own_mb (own_mb (0 : Int32) (q0.toInt32)) (own_lu q0 (32 : Int32))) ^^^ (own_scr ((q1.toInt32) &&& (16777215 : Int32)))) ^^^ (11 : Int32))))])) _
      refine own_istore X397.here hx (hb hby at_382) (l' := #[.val (.long q0), .second, .val (.long q1), .second, .val (.int p2), .val (.int 11), .val (.ref b362), .val (.int (q0.toInt32)), .val (.int (own_lu q0 (32 : Int32))), .val (.int (q1.toInt32)), .val (.int 2), .val (.int 3), .val (.int (own_fin (((own_mb (own_mb (0 : Int32) (q0.toInt32)) (own_lu q0 (32 : Int32))) ^^^ (own_scr ((q1.toInt32) &&& (16777215 : Int32)))) ^^^ (11 : Int32)))), .val (.int (q1.toInt32)), .val (.int (own_scr ((q1.toInt32) &&& (16777215 : Int32))))]) rfl ?_
      refine own_aload X397.here hx (hb hby at_384) rfl rfl ?_
      refine st398 _ ?_
      show Steps p.tables e below (T398.setTop (mkF m 389 #[.val (.long q0), .second, .val (.long q1), .second, .val (.int p2), .val (.int 11), .val (.ref b362), .val (.int (q0.toInt32)), .val (.int (own_lu q0 (32 : Int32))), .val (.int (q1.toInt32)), .val (.int 2), .val (.int 3), .val (.int (own_fin (((own_mb (own_mb (0 : Int32) (q0.toInt32)) (own_lu q0 (32 : Int32))) ^^^ (own_scr ((q1.toInt32) &&& (16777215 : Int32)))) ^^^ (11 : Int32)))), .val (.int (q1.toInt32)), .val (.int (own_scr ((q1.toInt32) &&& (16777215 : Int32))))] [(.int (own_fin (((own_mb (own_mb (0 : Int32) (own_blk (own_by (q0.toInt32)) (own_by (own_lu q0 (8 : Int32))) (own_by (own_lu q0 (16 : Int32))) (own_by (own_lu q0 (24 : Int32))))) (own_blk (own_by (own_lu q0 (32 : Int32))) (own_by (own_lu q0 (40 : Int32))) (own_by (own_lu q0 (48 : Int32))) (own_by (own_lu q0 (56 : Int32))))) ^^^ (own_scr (own_t3 (own_by (q1.toInt32)) (own_by (own_lu q1 (8 : Int32))) (own_by (own_lu q1 (16 : Int32)))))) ^^^ (11 : Int32))))])) _
      refine own_iload X398.here hx (hb hby at_389) rfl ?_
      refine own_icmpNo X398.here hx (hb hby at_391) (teq (by first | decide +kernel | simp only [own_blk0, own_blk1, own_t1e, own_t20, own_t21, own_t30, own_t31, own_scr0, Int32.xor_zero] : (own_fin (((own_mb (own_mb (0 : Int32) (own_blk (own_by (q0.toInt32)) (own_by (own_lu q0 (8 : Int32))) (own_by (own_lu q0 (16 : Int32))) (own_by (own_lu q0 (24 : Int32))))) (own_blk (own_by (own_lu q0 (32 : Int32))) (own_by (own_lu q0 (40 : Int32))) (own_by (own_lu q0 (48 : Int32))) (own_by (own_lu q0 (56 : Int32))))) ^^^ (own_scr (own_t3 (own_by (q1.toInt32)) (own_by (own_lu q1 (8 : Int32))) (own_by (own_lu q1 (16 : Int32)))))) ^^^ (11 : Int32))) = (own_fin (((own_mb (own_mb (0 : Int32) (q0.toInt32)) (own_lu q0 (32 : Int32))) ^^^ (own_scr ((q1.toInt32) &&& (16777215 : Int32)))) ^^^ (11 : Int32))))).2 ?_
      refine own_iconst X398.here hx (1 : Int32) (hb hby at_394) rfl ?_
      refine own_goto X398.here hx 395 399 rfl (hb hby at_395) (by decide) (by decide) ?_
      exact retN X398 hx (t := .boolean) Bd.returns (by simp) (hb hby at_399) hr
    · show Q0 Z q0 q1 p2 h0 n0 _ T398.heap _
      rw [e398]
      exact ⟨rfl, N398⟩
set_option maxRecDepth 65536 in
set_option maxHeartbeats 40000000 in
theorem comes_1 {Post : Tables → Env → Array Value → State → Outcome → State → Prop} (hpost : ∀ tb e args s v u, (limb_1_1.after args s (.returned v) u = true ∧ limb_1_2.after args s (.returned v) u = true ∧ True) → FrameEnd s (.returned v) u (Jvm.fieldLocs frame_1_writes args s ++ Jvm.arrayLocs frame_1_arrays args s ++ Jvm.staticLocs frame_1_statics s) 16 128 → Post tb e args s (.returned v) u) :
    ArmFor flags0 classFile x code maxLocals ret World_1 tables_1 room_1 Calls_1 rest_1 Pre_1 Post := by
  intro l hfl _ _ p e ha hc hk s m args below hf hA hF happ hP
  obtain ⟨hcalls, hrest, hpre⟩ := hP
  obtain ⟨-, -, -, hnamed, -, -, -, hat⟩ := (Spec.applies_iff hf).mp happ
  obtain ⟨hg, hn⟩ := and_e (Cond.before_iff.mp (show (Jvm.Cond.and given_1 narrow_1).before args s = true from hpre))
  obtain ⟨gv1, gv2⟩ := and_e hg
  obtain ⟨gv3, gv4⟩ := and_e gv2
  obtain ⟨gv5, gv6⟩ := and_e gv4
  obtain ⟨w0, w1, w2, rfl⟩ : ∃ w0 w1 w2 : Value, args = #[w0, w1, w2] := by
    have hs : args.size = 3 := by simpa [Cond.value, given_1] using gv1
    obtain ⟨L⟩ := args
    match L, hs with
    | [w0, w1, w2], _ => exact ⟨w0, w1, w2, rfl⟩
  have hw := fun d (hd : d ∈ tables_1) => atoms_spec (ws := Jvm.Cond.code x code maxLocals ret :: tables_1) hat d (List.mem_cons_of_mem _ hd)
  have hfit : Fit s := fun {y c} hc i hi => by
    obtain ⟨ha, rfl⟩ := Array.getElem?_eq_some_iff.mp hc
    have q := List.all_eq_true.mp ((Array.all_eq_true_iff_forall_mem.mp hF) _ (Array.getElem_mem ha)) i (List.mem_range.mpr hi)
    simpa [Array.getElem?_eq_getElem hi] using q
  obtain ⟨i0, ei0⟩ := isL_v gv3
  obtain rfl : w0 = (.long i0) := Option.some.inj ei0
  obtain ⟨i1, ei1⟩ := isL_v gv5
  obtain rfl : w1 = (.long i1) := Option.some.inj ei1
  obtain ⟨i2, ei2⟩ := is_v gv6
  obtain rfl : w2 = (.int i2) := Option.some.inj ei2
  obtain ⟨n, o, h1, h2, h3, _, L, rfl, ⟨rfl, N⟩, hq⟩ := rm0 l s _ hw tables_1 i0 i1 i2  s.heap s.heap.size (Nat.le_refl _)  p e ha hc hk s m _ below hf ((Spec.applies_iff_loose hf).mp happ).1 ⟨rfl, State.Warmed39.refl s, rfl⟩ trivial
  refine ⟨n, _, h1, h2, h3, hpost _ _ _ _ _ _ ⟨Cond.after_iff.mpr rfl, Cond.after_iff.mpr (eq_i res_at (Term.int_eval (1)) rfl), trivial⟩ ⟨hq.1, hq.2.1, (hq.2.2.sift fun y hy => Or.inr (N y hy)).mono (by decide) (by decide)⟩⟩
theorem main_1_1 : Claimed_1_1 := comes_1 fun _ _ _ _ _ _ h hF => ⟨h.1, hF⟩
theorem main_1_2 : Claimed_1_2 := comes_1 fun _ _ _ _ _ _ h hF => ⟨h.2.1, hF⟩
end Jvm.Pilot.@@N@@
namespace Jvm.Pilot.@@N@@
open Jvm Jvm.ClassFile Sem Op Lib Jvm.Free Jvm.Stand Jvm.Pilot.@@N@@.Jvm.D
/-! MADE BY PROGRAM (witnessworld.py) out of the Statement's table words and the real class files: 14 classes; the members and pool entries that the words name. The judged class is class 1, her method 2. -/
namespace start1
open Jvm.ClassFile
def u (s : String) : CpInfo := .utf8 (stringToUtf16 s)
/-- a pool by its gaps: so many unusable entries, then the entry; so many at the end -/
def gap : Nat → List CpInfo → List CpInfo
  | 0, r => r
  | n + 1, r => .unusable :: gap n r
def poolList (es : List (Nat × CpInfo)) (last : Nat) : List CpInfo := es.foldr (fun e r => gap e.1 (e.2 :: r)) (gap last [])
def pool (es : List (Nat × CpInfo)) (last : Nat) : Array CpInfo := ⟨poolList es last⟩
def fileOf (pool : Array CpInfo) (this : Nat) (attrs : Array Attribute := #[]) (ms : Array MethodInfo := #[]) (fl : Nat := 33) (sup : Nat := 0) (ifs : Array Nat := #[]) (fds : Array FieldInfo := #[]) : ClassFile where
  minorVersion := 0
  majorVersion := 65
  constantPool := pool
  accessFlags := fl
  thisClass := this
  superClass := sup
  interfaces := ifs
  fields := fds
  methods := ms
  attributes := attrs
def plain (name : String) (sup : Option ClassId) : Class where
  name := name
  kind := .ordinary
  loader := none
  accessFlags := 33
  super := sup
  interfaces := #[]
  cf := none
  fields := #[]
  methods := #[]
  instanceTypes := #[]
  staticTypes := #[]
  resolved := #[]
  callSites := []
  init := .initialized
  statics := none
  mirror := none

def pool0 : Array CpInfo := pool [(5, u "<init>"), (0, u "()V"), (1, .class_ 10), (1, u "java/lang/Object")] 113

def k0m0 : Method := { name := "<init>", desc := "()V", sig := { parameters := [], returnType := none }, accessFlags := 1, code := none }
/-- java/lang/Object -/
def k0 : Class := { plain "java/lang/Object" none with
  accessFlags := 33
  interfaces := #[]
  cf := some (fileOf pool0 8 #[] #[{ accessFlags := 1, nameIndex := 5, descriptorIndex := 6, attributes := #[] }] 33 0 #[] #[])
  fields := #[]
  methods := #[k0m0]
  instanceTypes := #[]
  staticTypes := #[]
  resolved := Array.replicate 124 none
  statics := none }

def pool1 : Array CpInfo := pool [(2, .class_ 4), (1, u "java/lang/Object"), (0, u "<init>"), (0, u "()V"), (0, .integer 3432918353), (0, .integer 461845907), (0, .integer 3864292196), (0, .integer 2147483647), (0, .methodref 12 13), (0, .class_ 14), (0, .nameAndType 15 16), (0, u "com/example/forkline/forkline/bucketing/MurmurHash3Hash32PinLaw"), (0, u "mixBlock"), (0, u "(II)I"), (0, .integer 2246822507), (0, .integer 3266489909), (0, .methodref 20 21), (0, .class_ 22), (0, .nameAndType 23 24), (0, u "com/example/forkline/forkline/bucketing/MurmurHash3"), (0, u "hash32"), (0, u "([B)I"), (2, u "law"), (0, u "(JJI)Z")] 5

def k1m0 : Method := { name := "<init>", desc := "()V", sig := { parameters := [], returnType := none }, accessFlags := 1, code := none }
def k1c1 : Code := { maxStack := 3, maxLocals := 4, code := method_2_code, exceptionTable := #[], attributes := #[] }
def k1m1 : Method := { name := "mixBlock", desc := "(II)I", sig := { parameters := [.int, .int], returnType := some .int }, accessFlags := 10, code := some k1c1 }
def k1c2 : Code := { maxStack := 5, maxLocals := 15, code := code, exceptionTable := #[], attributes := #[] }
def k1m2 : Method := { name := "law", desc := "(JJI)Z", sig := { parameters := [.long, .long, .int], returnType := some .boolean }, accessFlags := 9, code := some k1c2 }
/-- com/example/forkline/forkline/bucketing/MurmurHash3Hash32PinLaw -/
def k1 : Class := { plain "com/example/forkline/forkline/bucketing/MurmurHash3Hash32PinLaw" (some 0) with
  accessFlags := 49
  interfaces := #[]
  cf := some (fileOf pool1 12 #[] #[{ accessFlags := 1, nameIndex := 5, descriptorIndex := 6, attributes := #[] }, { accessFlags := 10, nameIndex := 15, descriptorIndex := 16, attributes := #[] }, { accessFlags := 9, nameIndex := 27, descriptorIndex := 28, attributes := #[] }] 49 2 #[] #[])
  fields := #[]
  methods := #[k1m0, k1m1, k1m2]
  instanceTypes := #[]
  staticTypes := #[]
  resolved := Array.replicate 34 none
  statics := none }

def pool2 : Array CpInfo := pool [(2, .class_ 4), (1, u "java/lang/Object"), (0, u "<init>"), (0, u "()V"), (0, .methodref 8 9), (0, .class_ 10), (0, .nameAndType 11 12), (0, u "com/example/forkline/forkline/bucketing/MurmurHash3"), (0, u "scramble"), (0, u "(I)I"), (0, .methodref 14 15), (0, .class_ 16), (0, .nameAndType 17 18), (0, u "java/lang/Integer"), (0, u "rotateLeft"), (0, u "(II)I"), (0, .integer 3864292196), (0, .methodref 8 21), (0, .nameAndType 22 12), (0, u "finalMix"), (0, .integer 3432918353), (0, .integer 461845907), (0, .integer 2246822507), (0, .integer 3266489909), (0, u "C1"), (0, u "I"), (1, u "C2"), (2, u "hash32"), (0, u "([B)I")] 3

def k2m0 : Method := { name := "<init>", desc := "()V", sig := { parameters := [], returnType := none }, accessFlags := 2, code := none }
def k2c1 : Code := { maxStack := 4, maxLocals := 5, code := prog_21_method_2_code, exceptionTable := #[], attributes := #[] }
def k2m1 : Method := { name := "hash32", desc := "([B)I", sig := { parameters := [(.array .byte)], returnType := some .int }, accessFlags := 8, code := some k2c1 }
def k2c2 : Code := { maxStack := 2, maxLocals := 1, code := prog_21_method_3_code, exceptionTable := #[], attributes := #[] }
def k2m2 : Method := { name := "scramble", desc := "(I)I", sig := { parameters := [.int], returnType := some .int }, accessFlags := 10, code := some k2c2 }
def k2c3 : Code := { maxStack := 3, maxLocals := 2, code := prog_21_method_4_code, exceptionTable := #[], attributes := #[] }
def k2m3 : Method := { name := "finalMix", desc := "(I)I", sig := { parameters := [.int], returnType := some .int }, accessFlags := 10, code := some k2c3 }
/-- com/example/forkline/forkline/bucketing/MurmurHash3 -/
def k2 : Class := { plain "com/example/forkline/forkline/bucketing/MurmurHash3" (some 0) with
  accessFlags := 48
  interfaces := #[]
  cf := some (fileOf pool2 8 #[] #[{ accessFlags := 2, nameIndex := 5, descriptorIndex := 6, attributes := #[] }, { accessFlags := 8, nameIndex := 33, descriptorIndex := 34, attributes := #[] }, { accessFlags := 10, nameIndex := 11, descriptorIndex := 12, attributes := #[] }, { accessFlags := 10, nameIndex := 22, descriptorIndex := 12, attributes := #[] }] 48 2 #[] #[{ accessFlags := 26, nameIndex := 27, descriptorIndex := 28, attributes := #[] }, { accessFlags := 26, nameIndex := 30, descriptorIndex := 28, attributes := #[] }])
  fields := #[{ name := "C1", type := .int, accessFlags := 26, slot := 0, constantValue := 0 }, { name := "C2", type := .int, accessFlags := 26, slot := 1, constantValue := 0 }]
  methods := #[k2m0, k2m1, k2m2, k2m3]
  instanceTypes := #[]
  staticTypes := #[.int, .int]
  resolved := Array.replicate 38 none
  statics := none }

def pool3 : Array CpInfo := pool [(1, .class_ 2), (0, u "java/io/Serializable"), (0, .class_ 4), (0, u "java/lang/Object")] 2

/-- java/io/Serializable -/
def k3 : Class := { plain "java/io/Serializable" (some 0) with
  accessFlags := 1537
  interfaces := #[]
  cf := some (fileOf pool3 1 #[] #[] 1537 3 #[] #[])
  fields := #[]
  methods := #[]
  instanceTypes := #[]
  staticTypes := #[]
  resolved := Array.replicate 7 none
  statics := none }

def pool4 : Array CpInfo := pool [(2, .class_ 4), (1, u "java/lang/Object"), (0, u "<init>"), (0, u "()V"), (1, .class_ 10), (1, u "java/lang/Number"), (2, .class_ 14), (0, u "java/io/Serializable"), (0, u "serialVersionUID"), (0, u "J")] 20

def k4m0 : Method := { name := "<init>", desc := "()V", sig := { parameters := [], returnType := none }, accessFlags := 1, code := none }
/-- java/lang/Number -/
def k4 : Class := { plain "java/lang/Number" (some 0) with
  accessFlags := 1057
  interfaces := #[3]
  cf := some (fileOf pool4 8 #[] #[{ accessFlags := 1, nameIndex := 5, descriptorIndex := 6, attributes := #[] }] 1057 2 #[13] #[{ accessFlags := 26, nameIndex := 15, descriptorIndex := 16, attributes := #[] }])
  fields := #[{ name := "serialVersionUID", type := .long, accessFlags := 26, slot := 0, constantValue := 0 }]
  methods := #[k4m0]
  instanceTypes := #[]
  staticTypes := #[.long]
  resolved := Array.replicate 37 none
  statics := none }

def pool5 : Array CpInfo := pool [(1, .class_ 2), (0, u "java/lang/Comparable"), (0, .class_ 4), (0, u "java/lang/Object")] 7

/-- java/lang/Comparable -/
def k5 : Class := { plain "java/lang/Comparable" (some 0) with
  accessFlags := 1537
  interfaces := #[]
  cf := some (fileOf pool5 1 #[] #[] 1537 3 #[] #[])
  fields := #[]
  methods := #[]
  instanceTypes := #[]
  staticTypes := #[]
  resolved := Array.replicate 12 none
  statics := none }

def pool6 : Array CpInfo := pool [(1, .class_ 2), (0, u "java/lang/constant/Constable"), (0, .class_ 4), (0, u "java/lang/Object")] 6

/-- java/lang/constant/Constable -/
def k6 : Class := { plain "java/lang/constant/Constable" (some 0) with
  accessFlags := 1537
  interfaces := #[]
  cf := some (fileOf pool6 1 #[] #[] 1537 3 #[] #[])
  fields := #[]
  methods := #[]
  instanceTypes := #[]
  staticTypes := #[]
  resolved := Array.replicate 11 none
  statics := none }

def pool7 : Array CpInfo := pool [(1, .class_ 2), (0, u "java/lang/constant/ConstantDesc"), (0, .class_ 4), (0, u "java/lang/Object")] 32

/-- java/lang/constant/ConstantDesc -/
def k7 : Class := { plain "java/lang/constant/ConstantDesc" (some 0) with
  accessFlags := 1537
  interfaces := #[]
  cf := some (fileOf pool7 1 #[] #[] 1537 3 #[] #[])
  fields := #[]
  methods := #[]
  instanceTypes := #[]
  staticTypes := #[]
  resolved := Array.replicate 37 none
  statics := none }

def pool8 : Array CpInfo := pool [(1, .class_ 2), (0, u "java/lang/Integer"), (16, u "digits"), (0, u "[C"), (39, u "(II)I"), (24, u "DigitOnes"), (0, u "[B"), (2, u "DigitTens"), (99, .class_ 190), (0, u "java/lang/Integer$IntegerCache"), (3, u "I"), (8, .class_ 204), (0, u "java/lang/Number"), (2, u "value"), (94, u "TYPE"), (0, u "Ljava/lang/Class;"), (0, .class_ 305), (0, u "java/lang/Comparable"), (0, .class_ 307), (0, u "java/lang/constant/Constable"), (0, .class_ 309), (0, u "java/lang/constant/ConstantDesc"), (0, u "MIN_VALUE"), (1, u "MAX_VALUE"), (3, u "SIZE"), (1, u "BYTES"), (1, u "serialVersionUID"), (0, u "J"), (86, u "rotateLeft")] 44

def k8c0 : Code := { maxStack := 3, maxLocals := 2, code := jdk_33_method_50_code, exceptionTable := #[], attributes := #[] }
def k8m0 : Method := { name := "rotateLeft", desc := "(II)I", sig := { parameters := [.int, .int], returnType := some .int }, accessFlags := 9, code := some k8c0 }
/-- java/lang/Integer -/
def k8 : Class := { plain "java/lang/Integer" (some 4) with
  accessFlags := 49
  interfaces := #[5, 6, 7]
  cf := some (fileOf pool8 1 #[.nestMembers #[189]] #[{ accessFlags := 9, nameIndex := 408, descriptorIndex := 60, attributes := #[] }] 49 203 #[304, 306, 308] #[{ accessFlags := 25, nameIndex := 310, descriptorIndex := 194, attributes := #[] }, { accessFlags := 25, nameIndex := 312, descriptorIndex := 194, attributes := #[] }, { accessFlags := 25, nameIndex := 302, descriptorIndex := 303, attributes := #[] }, { accessFlags := 24, nameIndex := 19, descriptorIndex := 20, attributes := #[] }, { accessFlags := 24, nameIndex := 89, descriptorIndex := 86, attributes := #[] }, { accessFlags := 24, nameIndex := 85, descriptorIndex := 86, attributes := #[] }, { accessFlags := 18, nameIndex := 207, descriptorIndex := 194, attributes := #[] }, { accessFlags := 25, nameIndex := 316, descriptorIndex := 194, attributes := #[] }, { accessFlags := 25, nameIndex := 318, descriptorIndex := 194, attributes := #[] }, { accessFlags := 26, nameIndex := 320, descriptorIndex := 321, attributes := #[] }])
  fields := #[{ name := "MIN_VALUE", type := .int, accessFlags := 25, slot := 0, constantValue := 0 }, { name := "MAX_VALUE", type := .int, accessFlags := 25, slot := 1, constantValue := 0 }, { name := "TYPE", type := (.object "java/lang/Class"), accessFlags := 25, slot := 2, constantValue := 0 }, { name := "digits", type := (.array .char), accessFlags := 24, slot := 3, constantValue := 0 }, { name := "DigitTens", type := (.array .byte), accessFlags := 24, slot := 4, constantValue := 0 }, { name := "DigitOnes", type := (.array .byte), accessFlags := 24, slot := 5, constantValue := 0 }, { name := "value", type := .int, accessFlags := 18, slot := 0, constantValue := 0 }, { name := "SIZE", type := .int, accessFlags := 25, slot := 6, constantValue := 0 }, { name := "BYTES", type := .int, accessFlags := 25, slot := 7, constantValue := 0 }, { name := "serialVersionUID", type := .long, accessFlags := 26, slot := 8, constantValue := 0 }]
  methods := #[k8m0]
  instanceTypes := #[.int]
  staticTypes := #[.int, .int, (.object "java/lang/Class"), (.array .char), (.array .byte), (.array .byte), .int, .int, .long]
  resolved := Array.replicate 453 none
  statics := none }

def pool9 : Array CpInfo := pool [(1, u "java/lang/Cloneable"), (0, .class_ 1), (0, u "java/lang/Object"), (0, .class_ 3)] 3

/-- java/lang/Cloneable -/
def k9 : Class := { plain "java/lang/Cloneable" (some 0) with
  accessFlags := 1537
  interfaces := #[]
  cf := some (fileOf pool9 2 #[] #[] 1537 4 #[] #[])
  fields := #[]
  methods := #[]
  instanceTypes := #[]
  staticTypes := #[]
  resolved := Array.replicate 8 none
  statics := none }

/-- the primitive byte -/
def k10 : Class := { plain "byte" none with kind := .primitive 'B', accessFlags := 0x411 }
/-- [B -/
def k11 : Class := { plain "[B" (some 0) with kind := .array 10 .byte, interfaces := #[9, 3], accessFlags := 1041 }

/-- the primitive int -/
def k12 : Class := { plain "int" none with kind := .primitive 'I', accessFlags := 0x411 }
/-- [I -/
def k13 : Class := { plain "[I" (some 0) with kind := .array 12 .int, interfaces := #[9, 3], accessFlags := 1041 }

def heap : Heap := #[]
def classes : Array Class := #[k0, k1, k2, k3, k4, k5, k6, k7, k8, k9, k10, k11, k12, k13]
def interned : List (Array UInt16 × Addr) := []
def slotsUsed : Nat := 0
def theMethod : MethodId := ⟨1, 2⟩
def args0 : Array Value := #[.long 5, .long 6, .int 7]
def aboutOver (below : List Frame) : State where
  vm := { classes := classes, interned := interned.toArray }
  heap := heap
  slotsUsed := slotsUsed
  threads := #[{ frames := .invoking theMethod args0 :: below }]
def below0 : List Frame := [.native { method := ⟨0, 0⟩, args := #[] }]
def about1 : State := aboutOver below0
def p0 : Program := .bare "" "" ""
def e0 : Env := launch0.env 0 0 0
theorem w_frames : about1.frames = Frame.invoking theMethod args0 :: below0 := rfl
set_option maxRecDepth 65536 in
theorem w_args : argsFit about1.vm theMethod args0 = true := by decide +kernel
set_option maxRecDepth 65536 in
theorem w_heap : heapFits about1 = true := by decide +kernel
set_option maxRecDepth 65536 in
theorem w_runnable : about1.curStatus? = some .runnable := by decide +kernel
set_option maxRecDepth 65536 in
theorem w_alone : about1.alone = true := by decide +kernel
set_option maxRecDepth 65536 in
theorem w_named : about1.methodNamed? x = some theMethod := by decide +kernel
set_option maxRecDepth 65536 in
theorem w_hears : about1.hears theMethod below0 = true := by decide +kernel
set_option maxRecDepth 65536 in
theorem w_ripe : about1.ripe theMethod args0 below0 = true := by decide +kernel
theorem w_running : about1.status = .running := rfl
set_option maxRecDepth 65536 in
theorem w_room : about1.hasRoom e0.platform room_1 = true :=
  launch0.hasRoom_least _ room_1 (by decide +kernel) (by decide +kernel) (by decide +kernel) (by decide +kernel) (by decide +kernel) (by decide +kernel)
theorem allAtoms_all (ts : List Jvm.Cond) (a : Array Jvm.Value) (st : Jvm.State) : (allAtoms ts).before a st = ts.all (fun c => c.before a st) := by
  induction ts with
  | nil => rfl
  | cons c t ih =>
    show (Jvm.Cond.and c (allAtoms t)).before a st = _
    rw [Jvm.Cond.before_and, ih, List.all_cons]
def words1 : List Jvm.Cond := Jvm.Cond.code x code maxLocals ret :: tables_1
/-- a 'code' word, met by the world's own term for the bytes: nothing is compared byte by byte -/
theorem code_word {y : MethodName} {bytes : ByteArray} {mx : Nat} {rt : Option FieldType} {a : Array Value} {s : State} {m : MethodId} {meth : Method} {c : Code} (h1 : s.methodNamed? y = some m) (h2 : s.vm.method? m = some meth) (h3 : meth.code = some c) (h4 : c.code = bytes)
    (h5 : (c.maxLocals == mx && c.exceptionTable.isEmpty && decide (c.maxStack ≤ mostOperands) && decide (meth.sig.returnType = rt) && !meth.locks && decide (parseMethodDescriptor y.desc = some meth.sig)) = true) : (Jvm.Cond.code y bytes mx rt).before a s = true := by
  simp only [Bool.and_eq_true, beq_iff_eq, Bool.not_eq_true', decide_eq_true_eq] at h5
  obtain ⟨⟨⟨⟨⟨g1, g2⟩, g3⟩, g4⟩, g5⟩, g6⟩ := h5
  simp [Cond.before, Cond.holds, Cond.value, h1, h2, h3, h4, g1, g2, g3, g4, g5, g6]
def isCode : Jvm.Cond → Bool
  | .code _ _ _ _ => true
  | _ => false
theorem all_split {L : List Jvm.Cond} {P : Jvm.Cond → Bool} (h1 : L.all (fun c => isCode c || P c) = true) (h2 : ∀ c ∈ L.filter isCode, P c = true) : L.all P = true := by
  refine List.all_eq_true.mpr fun c hc => ?_
  have h := List.all_eq_true.mp h1 c hc
  rcases Bool.eq_false_or_eq_true (isCode c) with hi | hi
  · exact h2 c (List.mem_filter.mpr ⟨hc, hi⟩)
  · simpa [hi] using h
set_option maxRecDepth 65536 in
theorem w_c0 : (Jvm.Cond.code x code maxLocals ret).before args0 about1 = true := code_word (m := ⟨1, 2⟩) (meth := k1m2) (c := k1c2) (by decide +kernel) rfl rfl rfl (by decide +kernel)
set_option maxRecDepth 65536 in
theorem w_c1 : (Jvm.Cond.code ({ cls := "com/example/forkline/forkline/bucketing/MurmurHash3", name := "hash32", desc := "([B)I" } : Jvm.MethodName) prog_21_method_2_code (5 : Nat) (Option.some Jvm.ClassFile.FieldType.int)).before args0 about1 = true := code_word (m := ⟨2, 1⟩) (meth := k2m1) (c := k2c1) (by decide +kernel) rfl rfl rfl (by decide +kernel)
set_option maxRecDepth 65536 in
theorem w_c2 : (Jvm.Cond.code ({ cls := "com/example/forkline/forkline/bucketing/MurmurHash3", name := "scramble", desc := "(I)I" } : Jvm.MethodName) prog_21_method_3_code (1 : Nat) (Option.some Jvm.ClassFile.FieldType.int)).before args0 about1 = true := code_word (m := ⟨2, 2⟩) (meth := k2m2) (c := k2c2) (by decide +kernel) rfl rfl rfl (by decide +kernel)
set_option maxRecDepth 65536 in
theorem w_c3 : (Jvm.Cond.code ({ cls := "java/lang/Integer", name := "rotateLeft", desc := "(II)I" } : Jvm.MethodName) jdk_33_method_50_code (2 : Nat) (Option.some Jvm.ClassFile.FieldType.int)).before args0 about1 = true := code_word (m := ⟨8, 0⟩) (meth := k8m0) (c := k8c0) (by decide +kernel) rfl rfl rfl (by decide +kernel)
set_option maxRecDepth 65536 in
theorem w_c4 : (Jvm.Cond.code ({ cls := "com/example/forkline/forkline/bucketing/MurmurHash3", name := "finalMix", desc := "(I)I" } : Jvm.MethodName) prog_21_method_4_code (2 : Nat) (Option.some Jvm.ClassFile.FieldType.int)).before args0 about1 = true := code_word (m := ⟨2, 3⟩) (meth := k2m3) (c := k2c3) (by decide +kernel) rfl rfl rfl (by decide +kernel)
set_option maxRecDepth 65536 in
theorem w_c5 : (Jvm.Cond.code ({ cls := "com/example/forkline/forkline/bucketing/MurmurHash3Hash32PinLaw", name := "mixBlock", desc := "(II)I" } : Jvm.MethodName) method_2_code (4 : Nat) (Option.some Jvm.ClassFile.FieldType.int)).before args0 about1 = true := code_word (m := ⟨1, 1⟩) (meth := k1m1) (c := k1c1) (by decide +kernel) rfl rfl rfl (by decide +kernel)
def codes1 : List Jvm.Cond := [Jvm.Cond.code x code maxLocals ret, Jvm.Cond.code ({ cls := "com/example/forkline/forkline/bucketing/MurmurHash3", name := "hash32", desc := "([B)I" } : Jvm.MethodName) prog_21_method_2_code (5 : Nat) (Option.some Jvm.ClassFile.FieldType.int), Jvm.Cond.code ({ cls := "com/example/forkline/forkline/bucketing/MurmurHash3", name := "scramble", desc := "(I)I" } : Jvm.MethodName) prog_21_method_3_code (1 : Nat) (Option.some Jvm.ClassFile.FieldType.int), Jvm.Cond.code ({ cls := "java/lang/Integer", name := "rotateLeft", desc := "(II)I" } : Jvm.MethodName) jdk_33_method_50_code (2 : Nat) (Option.some Jvm.ClassFile.FieldType.int), Jvm.Cond.code ({ cls := "com/example/forkline/forkline/bucketing/MurmurHash3", name := "finalMix", desc := "(I)I" } : Jvm.MethodName) prog_21_method_4_code (2 : Nat) (Option.some Jvm.ClassFile.FieldType.int), Jvm.Cond.code ({ cls := "com/example/forkline/forkline/bucketing/MurmurHash3Hash32PinLaw", name := "mixBlock", desc := "(II)I" } : Jvm.MethodName) method_2_code (4 : Nat) (Option.some Jvm.ClassFile.FieldType.int)]
set_option maxRecDepth 65536 in
theorem codes_eq : words1.filter isCode = codes1 := rfl
theorem w_codes : ∀ c ∈ words1.filter isCode, c.before args0 about1 = true := by
  rw [codes_eq]
  intro c hc
  simp only [codes1, List.mem_cons, List.not_mem_nil, or_false] at hc
  rcases hc with rfl | rfl | rfl | rfl | rfl | rfl
  · exact w_c0
  · exact w_c1
  · exact w_c2
  · exact w_c3
  · exact w_c4
  · exact w_c5
set_option maxRecDepth 65536 in
theorem w_t1 : (words1.take 24).all (fun c => isCode c || c.before args0 about1) = true := by decide +kernel
set_option maxRecDepth 65536 in
theorem w_t2 : (words1.drop 24).all (fun c => isCode c || c.before args0 about1) = true := by decide +kernel
theorem w_tables : (allAtoms (Jvm.Cond.code x code maxLocals ret :: tables_1)).before args0 about1 = true := by
  rw [allAtoms_all]
  show words1.all (fun c => c.before args0 about1) = true
  refine all_split ?_ w_codes
  rw [← List.take_append_drop 24 words1, List.all_append, w_t1, w_t2]
  rfl
set_option maxRecDepth 65536 in
theorem w_case : (Jvm.Cond.and given_1 narrow_1).before args0 about1 = true := by decide +kernel
theorem w_applies : (headSpec (Jvm.Cond.code x code maxLocals ret :: tables_1) room_1).applies x e0.platform about1 = true :=
  (Spec.applies_iff w_frames).mpr ⟨w_running, w_runnable, w_alone, w_named, w_hears, w_ripe, w_room, w_tables⟩
theorem atStart : AtStart classFile x code maxLocals ret World_1 tables_1 room_1 Calls_1 rest_1 Pre_1 launch0 p0 e0 about1 theMethod args0 below0 :=
  ⟨lists_1, trivial, launch0.admits_env _ _ _, launch0.least_env, fairChoices_fair.cas, fairChoices_fair.clock, w_frames, w_args, w_heap, w_applies, trivial, trivial, w_case⟩
end start1
theorem witness_1 : WitnessClaimed_1 := ⟨start1.p0, start1.e0, start1.about1, start1.theMethod, start1.args0, start1.below0, start1.atStart⟩
end Jvm.Pilot.@@N@@
